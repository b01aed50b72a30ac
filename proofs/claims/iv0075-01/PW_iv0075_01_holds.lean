import PyProof.Rows.All
import Wide.All
import OpenK.AllK
import Wide.FinOn
import KE.KStateTextK
import KE.KLcTest
import PySem.Challenge.RW_iv0075_01
open PySem PySem.W PyProof.Rows PySem.Calls
set_option Elab.async false
set_option maxRecDepth 100000
set_option maxHeartbeats 8000000
set_option linter.unusedSimpArgs false
set_option rowWalk.seconds 0
namespace Mine
section
/-- the text behind its two `__name__` lines, as the walk reads it -/
noncomputable def view : Program := { PySem.Challenge.pw_iv0075_01 with main := { PySem.Challenge.pw_iv0075_01.main with body := (PySem.Challenge.pw_iv0075_01.main.body.drop 1).take 18 ++ PySem.Challenge.pw_iv0075_01.main.body.drop 20 } }
noncomputable abbrev loose : List Str := [Str.ofString "_step2list", Str.ofString "_step3list", Str.ofString "_law_second", Str.ofString "_law_third", Str.ofString "_law_fourth"]

section
local macro_rules | `(tactic| o_head $_:term) => `(tactic| assumption)
/-- lays the heap's objects as `frag.heap_1` -/
theorem frag (h : PySem.Challenge.rw_iv0075_01.row.Holds) : PySem.Challenge.rw_iv0075_01.row.Holds := by k_head
end
noncomputable def addrs : List Addr := [2, 3, 15, 17, 18, 20, 21, 23, 24, 25, 27, 28, 30, 31, 32, 34, 35, 37, 38, 39, 41, 42, 44, 45, 46, 48, 49, 51, 52, 53, 55, 56, 58, 59, 60, 62, 63, 65, 66, 67, 69, 70, 72, 73, 74, 76, 77, 79, 80, 81, 83, 84, 86, 87, 88, 90, 91, 93, 94, 95, 97, 98, 100, 101, 102, 104, 105, 107, 108, 109, 111, 112, 114, 115, 116, 118, 119, 121, 122, 123, 125, 126, 128, 129, 130, 132, 133, 135, 136, 137, 138, 139, 140, 141, 142, 143, 144, 145, 146, 147, 148, 149, 150, 151, 152, 153, 154, 155, 156, 157, 158, 159, 160, 161, 162, 163, 164, 165, 166, 167, 168, 170, 171, 173, 174, 175, 178, 179, 180, 182, 183, 185, 186, 187, 189, 190, 192, 193, 194, 196, 197, 199, 200, 201, 204, 205, 206, 208, 209, 211, 212, 213, 215, 216, 218, 219]
theorem addrs_eq : ∀ P, addrs = (frag.heap_1 P).map (·.1) := fun _ => by kernel_rfl
noncomputable abbrev hook : Hook := kHook frag.heap_1 addrs addrs_eq
noncomputable abbrev seesX (s : Shared) : Bool := xlAt view [] s && recOk (RowW.records PySem.Challenge.rw_iv0075_01.row.toRowW) s
theorem opens_plain : opening PySem.Challenge.pw_iv0075_01 = plainProg PySem.Challenge.pw_iv0075_01.main.scope.names := by kernel_rfl
theorem fence_plain : ∀ s, fenceModules? PySem.Challenge.pw_iv0075_01 s = some s := by intro s; kernel_rfl
/-- the opening is the plain one: what is left is the text's own run, on either answer to the one row that it asks -/
theorem left_boot {p : Program} {β : Type} {f : Shared → β} {g : World → β} {N : Nat} (row : String)
    (e : opening p = plainProg p.main.scope.names) (hN : Nat.ble 600 N = true) (hf : ∀ s, fenceModules? p s = some s)
    (h0 : ∀ (w : World) (os : OsState), (topFrom treeTable p (w.withFollow row false) N ⟨boot_heap (w.withFollow row false).params, Array.mk [], boot_drawn, boot_toks, os⟩).map f = some (g (w.withFollow row false)))
    (h1 : ∀ (w : World) (os : OsState), (topFrom treeTable p (w.withFollow row true) N ⟨boot_heap (w.withFollow row true).params, Array.mk [], boot_drawn, boot_toks, os⟩).map f = some (g (w.withFollow row true))) :
    ∀ w, (openEnds treeTable p w N).map f = some (g w) := fun w => by
  have h : ∀ b : Bool, ∀ (w : World) (os : OsState), (topFrom treeTable p (w.withFollow row b) N ⟨boot_heap (w.withFollow row b).params, Array.mk [], boot_drawn, boot_toks, os⟩).map f = some (g (w.withFollow row b)) :=
    fun b => match b with | false => h0 | true => h1
  obtain ⟨⟨hp, gs, dr, tk, os⟩, h1, h2⟩ := Option.map_eq_some_iff.mp (boot_open e hN hf w)
  obtain ⟨rfl, h2⟩ := Prod.mk.inj h2
  obtain ⟨rfl, h2⟩ := Prod.mk.inj h2
  obtain ⟨rfl, rfl⟩ := Prod.mk.inj h2
  have k := h (w.params.followText row) w os
  rw [World.withFollow_self w row] at k
  unfold openEnds
  rw [h1]
  exact k
theorem run0 : ∀ (w : World) (os : OsState), (topFrom treeTable PySem.Challenge.pw_iv0075_01 (w.withFollow "special-get-raises" false) 2946 ⟨boot_heap (w.withFollow "special-get-raises" false).params, Array.mk [], boot_drawn, boot_toks, os⟩).map (fun s => (openSeen view loose [] seesX true s, hook.obs s)) = some (openGood view loose, hook.val (w.withFollow "special-get-raises" false)) := by
  intro w os
  kernel_rfl
theorem run1 : ∀ (w : World) (os : OsState), (topFrom treeTable PySem.Challenge.pw_iv0075_01 (w.withFollow "special-get-raises" true) 2946 ⟨boot_heap (w.withFollow "special-get-raises" true).params, Array.mk [], boot_drawn, boot_toks, os⟩).map (fun s => (openSeen view loose [] seesX true s, hook.obs s)) = some (openGood view loose, hook.val (w.withFollow "special-get-raises" true)) := by
  intro w os
  kernel_rfl
theorem left : LeftO PySem.Challenge.pw_iv0075_01 view loose seesX hook.obs hook.val 2946 := left_boot "special-get-raises" opens_plain rfl fence_plain run0 run1
set_option hygiene false in
local macro_rules | `(tactic| k_head) => `(tactic| (refine holds_open (q := view) (loose := loose) (Xt := seesX) (XP := XL view []) (N := 2946) left hook.of hook.keeps (fun s e => xl_of s (Bool.and_eq_true_iff.mp e).1) XL.keeps (by rfl) (by rfl) (by rfl) (fun s e => recFacts_of (Bool.and_eq_true_iff.mp e).2) rfl (by assumption) (by decide +kernel) ⟨rfl, rfl, rfl, rfl, rfl, by decide +kernel⟩ ?hw ?hc))
open_top hd for PySem.Challenge.rw_iv0075_01
end
section
noncomputable abbrev LW : List Str := looseW view loose

theorem fill : PySem.Challenge.rw_iv0075_01 = PySem.Challenge.rw_iv0075_01 ∧ frag.heap_1 = frag.heap_1 := by
  k_fill
  exact ⟨rfl, rfl⟩

noncomputable def Newer (nx news : List (Addr × Obj)) : Prop := ∀ p ∈ nx, ∀ q ∈ news, @LT.lt Nat _ q.1 p.1
theorem Newer.nil {news : List (Addr × Obj)} : Newer [] news := fun _ h => nomatch h

/-- the contract of a call: `f` on `vs`, at most `d` frames deep, hands back `v` and the new objects `nx` with `Post v nx` -/
noncomputable def Ctr (w : World) (d : Nat) (f : Addr) (news : List (Addr × Obj)) (vs : List Value) (Post : Value → List (Addr × Obj) → Prop) : Prop :=
  ∀ (mean : ExcName → Option Value) (mg mb : Str → Option Value) (dp un : Nat) (gd : Option (List Code)) (cn : Str) (cs : Scope) (a : Addr) (ccd : Value) (cl : List (Str × Addr)) (outer : List Env) (A₀ : Around) (base h₀ : Heap) (L : Addr) (m : Str → Option Value) (s : Shared) (Q E : Value → Shared → Prop),
    Below A₀ base outer h₀ → Fr h₀ L s.heap m → (frag.heap_1 w.params).In h₀ → News h₀ L s.heap news → Top view LW mean mg mb h₀ → cs.kind = .function →
    dp + d < recursionLimit → un + 8 * d < cLine →
    (∀ v nx h' tk', Post v nx → Newer nx news → Fr h₀ L h' m → News h₀ L h' (nx ++ news) → Q v { s with heap := h', toks := tk' }) →
    wpAny (model PySem.Challenge.rw_iv0075_01.row.prog w) (ktrTop dp un gd cn cs L a ccd cl outer) (call (.ref f) vs) Q E s

/-- what a body's end must show -/
noncomputable def BodyPost (g : Heap) (L : Addr) (news : List (Addr × Obj)) (s : Shared) (Post : Value → List (Addr × Obj) → Prop) (fl : Flow) (s' : Shared) : Prop :=
  ∃ v nx h' m' tk', fl = .ret v ∧ s' = { s with heap := h', toks := tk' } ∧ Fr g L h' m' ∧ News g L h' (nx ++ news) ∧ Newer nx news ∧ Post v nx

theorem BodyPost.intro {g : Heap} {L : Addr} {news news' : List (Addr × Obj)} {s : Shared} {Post : Value → List (Addr × Obj) → Prop} {v : Value} {h' : Heap} {m' : Str → Option Value} {tk' : Nat} (nx : List (Addr × Obj))
    (F : Fr g L h' m') (N : News g L h' news') (hs : ∀ p ∈ nx ++ news, p ∈ news') (ho : Newer nx news) (hp : Post v nx) :
    BodyPost g L news s Post (.ret v) { s with heap := h', toks := tk' } := ⟨v, nx, h', m', tk', rfl, rfl, F, fun p hp => N p (hs p hp), ho, hp⟩
/-- nothing new goes out -/
theorem BodyPost.plain {g : Heap} {L : Addr} {news news' : List (Addr × Obj)} {s : Shared} {Post : Value → List (Addr × Obj) → Prop} {v : Value} {h' : Heap} {m' : Str → Option Value} {tk' : Nat}
    (F : Fr g L h' m') (N : News g L h' news') (hs : ∀ p ∈ news, p ∈ news') (hp : Post v []) :
    BodyPost g L news s Post (.ret v) { s with heap := h', toks := tk' } := .intro [] F N (by simpa using hs) .nil hp

theorem Ctr.intro {w : World} {d : Nat} {f : Addr} {news : List (Addr × Obj)} {vs : List Value} {Post : Value → List (Addr × Obj) → Prop} {name qual : Str} {params : Arguments} {body : List Stmt} {scope : Scope} {dV kV doc pm cdv ct oc : Value} {an od : Option Addr} {osl : Array (Option Value)}
    (binds : List (Str × Value))
    (ho : (frag.heap_1 w.params).lookup f = some ⟨oc, od, .func (fnOf name qual params body scope dV kV doc pm an cdv ct), osl⟩) (hcd : codeIn (frag.heap_1 w.params) cdv qual = true)
    (hbind : bindArgs (fnOf name qual params body scope dV kV doc pm an cdv ct) ⟨vs, []⟩ = pure binds) (hloc : ∀ y ∈ binds, scope.names.lookup y.1 = some .local)
    (hco : scope.isCoroutine = false) (hgen : scope.isGenerator = false) (hk : scope.kind = .function) (hcell : ∀ x ∈ scope.names, x.2 ≠ .cell)
    (h : ∀ (mean : ExcName → Option Value) (mg mb : Str → Option Value) (dp un : Nat) (gd : Option (List Code)) (outer : List Env) (A₀ : Around) (base g : Heap) (L : Addr) (s : Shared),
      Below A₀ base outer g → Fr g L s.heap (fun y => binds.reverse.lookup y) → (frag.heap_1 w.params).In g → News g L s.heap news → Top view LW mean mg mb g →
      dp + d < recursionLimit + 1 → un + 8 * d < cLine + 3 →
      wpAny (model PySem.Challenge.rw_iv0075_01.row.prog w) (ktrTop dp un gd qual scope L f cdv [] outer) (execs body (envX qual scope L f cdv [])) (BodyPost g L news s Post) (fun _ _ => False) s) :
    Ctr w d f news vs Post := by
  intro mean mg mb dp un gd cn cs a ccd cl outer A₀ base h₀ L m s Q E B F X N T hkc hdp hun hret
  refine wpAny_call (code_def B F X N T rfl rfl hkc ho hcd (show dp < recursionLimit by omega) (BindsTo.of_eq hbind) hloc ?_ hco hgen hk hcell)
  intro g L' h₁ Fg F' N' B' X' T'
  refine wpAny_mono (h mean mg mb (dp + 1) (un + 3) gd (envX cn cs L a ccd cl :: outer) _ base g L' { s with heap := h₁, toks := s.toks + binds.length } B' F' X' N' T' (by omega) (by omega)) ?_ (fun _ _ e => e.elim)
  rintro fl s' ⟨v, nx, h', m', tk', rfl, rfl, F₂, N₂, ho₂, hp⟩
  exact ⟨L', m', nx ++ news, F₂, N₂, fun F₃ N₃ => hret v nx h' tk' hp ho₂ F₃ N₃⟩
end
section
noncomputable def S (l : List Nat) : Str := ⟨l.toArray⟩
theorem S_cps (l : List Nat) : (S l).cps.toList = l := by simp [S]
theorem len_S (l : List Nat) : (S l).length = l.length := by simp [S, Str.length]
theorem S_of (x : Str) : x = S x.cps.toList := by simp [S]
theorem S_inj {a b : List Nat} (h : S a = S b) : a = b := by rw [← S_cps a, h, S_cps]
theorem S_beq (a b : List Nat) : (S a == S b) = (a == b) := by
  rw [Bool.eq_iff_iff, beq_iff_eq, beq_iff_eq]
  exact ⟨S_inj, fun h => by rw [h]⟩
theorem S_append (a b : List Nat) : S a ++ S b = S (a ++ b) := by
  show Str.mk (a.toArray ++ b.toArray) = Str.mk (a ++ b).toArray
  simp

/-- x[:k] -/
noncomputable def cutTo (l : List Nat) (k : Int) : List Nat := l.take (if k < 0 then (l.length + k).toNat else k.toNat)
/-- x[k:] -/
noncomputable def cutFrom (l : List Nat) (k : Int) : List Nat := l.drop (if k < 0 then (l.length + k).toNat else k.toNat)

theorem clip_hi (n : Nat) (k : Int) : Builtin.Str.strSliceIndices none (some k) 1 n = Builtin.Str.strSliceIndices none (some ((min (if k < 0 then ((n : Int) + k).toNat else k.toNat) n : Nat) : Int)) 1 n := by
  have a2 : ¬ (((min (if k < 0 then ((n : Int) + k).toNat else k.toNat) n : Nat) : Int) < 0) := by omega
  have e1 : max (0 : Int) (min (if k < 0 then k + n else k) (n : Int)) = ((min (if k < 0 then ((n : Int) + k).toNat else k.toNat) n : Nat) : Int) := by
    split <;> omega
  have e2 : max (0 : Int) (min ((min (if k < 0 then ((n : Int) + k).toNat else k.toNat) n : Nat) : Int) (n : Int)) = ((min (if k < 0 then ((n : Int) + k).toNat else k.toNat) n : Nat) : Int) := by omega
  simp only [Builtin.Str.strSliceIndices, show (1 : Int) > 0 by decide, if_true, if_neg a2, e1, e2]
theorem clip_lo (n : Nat) (k : Int) : Builtin.Str.strSliceIndices (some k) none 1 n = Builtin.Str.strSliceIndices (some ((min (if k < 0 then ((n : Int) + k).toNat else k.toNat) n : Nat) : Int)) none 1 n := by
  have a2 : ¬ (((min (if k < 0 then ((n : Int) + k).toNat else k.toNat) n : Nat) : Int) < 0) := by omega
  have e1 : max (0 : Int) (min (if k < 0 then k + n else k) (n : Int)) = ((min (if k < 0 then ((n : Int) + k).toNat else k.toNat) n : Nat) : Int) := by
    split <;> omega
  have e2 : max (0 : Int) (min ((min (if k < 0 then ((n : Int) + k).toNat else k.toNat) n : Nat) : Int) (n : Int)) = ((min (if k < 0 then ((n : Int) + k).toNat else k.toNat) n : Nat) : Int) := by omega
  simp only [Builtin.Str.strSliceIndices, show (1 : Int) > 0 by decide, if_true, if_neg a2, e1, e2]

theorem slice_to_S (l : List Nat) (k : Int) : Txt.slice (S l) none (some k) = S (cutTo l k) := by
  show StrLaws.sliceText (S l) none (some k) = _
  have e : StrLaws.sliceText (S l) none (some k) = StrLaws.sliceText (S l) none (some ((min (if k < 0 then ((l.length : Int) + k).toNat else k.toNat) l.length : Nat) : Int)) := by
    unfold StrLaws.sliceText
    rw [len_S, clip_hi]
  rw [e, StrLaws.sliceText_to ⟨by omega, by rw [S_cps]; omega⟩, S_cps]
  unfold cutTo S
  congr 2
  rw [List.drop_zero, Int.sub_zero, Int.toNat_natCast]
  generalize (if k < 0 then ((l.length : Int) + k).toNat else k.toNat) = q
  by_cases h : q ≤ l.length
  · rw [Nat.min_eq_left h]
  · rw [Nat.min_eq_right (by omega), List.take_length, List.take_of_length_le (by omega)]
theorem slice_from_S (l : List Nat) (k : Int) : Txt.slice (S l) (some k) none = S (cutFrom l k) := by
  show StrLaws.sliceText (S l) (some k) none = _
  have e : StrLaws.sliceText (S l) (some k) none = StrLaws.sliceText (S l) (some ((min (if k < 0 then ((l.length : Int) + k).toNat else k.toNat) l.length : Nat) : Int)) none := by
    unfold StrLaws.sliceText
    rw [len_S, clip_lo]
  rw [e, StrLaws.sliceText_from ⟨by omega, by rw [S_cps]; omega⟩, S_cps]
  unfold cutFrom S
  congr 2
  rw [Int.toNat_natCast]
  generalize (if k < 0 then ((l.length : Int) + k).toNat else k.toNat) = q
  by_cases h : q ≤ l.length
  · rw [Nat.min_eq_left h, List.take_of_length_le (by rw [List.length_drop]; omega)]
  · rw [Nat.min_eq_right (by omega), List.drop_length, List.drop_eq_nil_of_le (by omega), List.take_nil]

theorem item_S_nat (l : List Nat) (i : Nat) (h : i < l.length) : Txt.item (S l) (i : Int) = S [l.getD i 0] := by
  have hn : (S l).cps[((i : Int)).toNat]? = some (l.getD i 0) := by
    simp [S, List.getD_eq_getElem?_getD, h]
  rw [item_meets (by omega) hn]; rfl
theorem item_S_neg (l : List Nat) (j : Nat) (h : j < l.length) : Txt.item (S l) (-((j : Int) + 1)) = S [l.getD (l.length - (j + 1)) 0] := by
  unfold Txt.item Txt.charAt
  rw [len_S, StrLaws.seqIndex_neg (by omega) (by omega)]
  have e : (-((j : Int) + 1) + (l.length : Int)).toNat = l.length - (j + 1) := by omega
  rw [e]
  simp only [Option.bind_some]
  have hn : (S l).cps[l.length - (j + 1)]? = some (l.getD (l.length - (j + 1)) 0) := by
    have : l.length - (j + 1) < l.length := by omega
    simp [S, List.getD_eq_getElem?_getD, this]
  rw [hn]; rfl

theorem endswith_S (l : List Nat) (y : Str) : Txt.endswith (S l) y = y.cps.toList.isSuffixOf l := by
  have e : y.length = y.cps.toList.length := by simp [Str.length]
  unfold Txt.endswith
  rw [len_S, StrLaws.subAt_eq, S_cps, e]
  rw [Bool.eq_iff_iff]
  simp only [Bool.and_eq_true, decide_eq_true_eq, beq_iff_eq, Nat.zero_add, List.isSuffixOf_iff_suffix]
  constructor
  · rintro ⟨h1, h2⟩
    rw [List.take_of_length_le (by rw [List.length_drop]; omega)] at h2
    rw [← h2]
    exact List.drop_suffix _ _
  · intro h
    have hl := h.length_le
    refine ⟨hl, ?_⟩
    obtain ⟨p, rfl⟩ := h
    rw [List.length_append, Nat.add_sub_cancel, List.drop_left, List.take_length]

theorem pos_of_ne {l : List Nat} (h : (l == (Str.ofString "").cps.toList) = false) : -(-1 : Int) ≤ (l.length : Int) := by
  cases l with
  | nil => exact absurd h (by decide)
  | cons a r => simp only [List.length_cons]; omega
section
variable {prog : Program} {w : World} {A : Around} {E : Value → Shared → Prop} {s : Shared} {l l₂ : List Nat} {t u : Tok} {Q : Value → Shared → Prop} {h₀ : Heap} {L : Addr} {m : Str → Option Value} {news : List (Addr × Obj)}
theorem op_len (hb : l.length ≤ 100000) (h : ∀ t' tk, Q (.int l.length t') { s with toks := tk }) : wpAny (model prog w) A (call (.builtin "len") [.str (S l) t]) Q E s := by
  refine SBL.len (by rw [len_S]; omega) ?_
  rw [len_S]
  exact h _ _
theorem op_item {value slice : PySem.Expr} (i : Nat) (hi : i < l.length) (hb : l.length ≤ 100000) (h : ∀ t' tk, Q (.str (S [l.getD i 0]) t') { s with toks := tk })
    (hs : subscripted slice false (.str (S l) t) (.int i u) = operate [.str (S l) t, .int i u] (getItem (.str (S l) t) (.int i u)) := by with_unfolding_all rfl)
    (ht : ∀ r, letTemporaryGo value (.str (S l) t) r = pure () := by intro _; with_unfolding_all rfl) :
    wpAny (model prog w) A (subscriptTail value slice (.str (S l) t) (.int i u)) Q E s := by
  refine item_str (fitsSsize_of (N := 9223372036854775808) (by omega) (by omega) (Int.le_refl _)) (by rw [len_S]; omega) (by rw [len_S]; omega) (fun _ => ?_) hs ht
  rw [item_S_nat l i hi]
  exact h _ _
theorem op_itemZ {value slice : PySem.Expr} {k : Int} (h0 : 0 ≤ k) (hi : k < l.length) (hb : l.length ≤ 100000) (h : ∀ t' tk, Q (.str (S [l.getD k.toNat 0]) t') { s with toks := tk })
    (hs : subscripted slice false (.str (S l) t) (.int k u) = operate [.str (S l) t, .int k u] (getItem (.str (S l) t) (.int k u)) := by with_unfolding_all rfl)
    (ht : ∀ r, letTemporaryGo value (.str (S l) t) r = pure () := by intro _; with_unfolding_all rfl) :
    wpAny (model prog w) A (subscriptTail value slice (.str (S l) t) (.int k u)) Q E s := by
  obtain ⟨i, rfl⟩ := Int.eq_ofNat_of_zero_le h0
  have e : ((i : Nat) : Int).toNat = i := by omega
  rw [e] at h
  exact op_item i (by omega) hb h hs ht
theorem op_item_neg {value slice : PySem.Expr} {k : Int} (j : Nat) (hk : k = -((j : Int) + 1)) (hi : j < l.length) (hb : l.length ≤ 100000) (h : ∀ t' tk, Q (.str (S [l.getD (l.length - (j + 1)) 0]) t') { s with toks := tk })
    (hs : subscripted slice false (.str (S l) t) (.int k u) = operate [.str (S l) t, .int k u] (getItem (.str (S l) t) (.int k u)) := by with_unfolding_all rfl)
    (ht : ∀ r, letTemporaryGo value (.str (S l) t) r = pure () := by intro _; with_unfolding_all rfl) :
    wpAny (model prog w) A (subscriptTail value slice (.str (S l) t) (.int k u)) Q E s := by
  subst hk
  refine item_str (fitsSsize_of (N := 9223372036854775808) (by omega) (by omega) (Int.le_refl _)) (by rw [len_S]; omega) (by rw [len_S]; omega) (fun _ => ?_) hs ht
  rw [item_S_neg l j hi]
  exact h _ _
theorem op_itemN {value slice : PySem.Expr} {k : Int} (h0 : k < 0) (hi : -k ≤ l.length) (hb : l.length ≤ 100000) (h : ∀ t' tk, Q (.str (S [l.getD (l.length - k.natAbs) 0]) t') { s with toks := tk })
    (hs : subscripted slice false (.str (S l) t) (.int k u) = operate [.str (S l) t, .int k u] (getItem (.str (S l) t) (.int k u)) := by with_unfolding_all rfl)
    (ht : ∀ r, letTemporaryGo value (.str (S l) t) r = pure () := by intro _; with_unfolding_all rfl) :
    wpAny (model prog w) A (subscriptTail value slice (.str (S l) t) (.int k u)) Q E s := by
  obtain ⟨j, rfl⟩ : ∃ j : Nat, k = -((j : Int) + 1) := ⟨(-k - 1).toNat, by omega⟩
  have e : (-((j : Int) + 1)).natAbs = j + 1 := by omega
  rw [e] at h
  exact op_item_neg j rfl (by omega) hb h hs ht
theorem op_in {c : Nat} {y : Str} (h : Q (.bool (y.cps.toList.contains c)) s) : wpAny (model prog w) A (compareOp .In (.str (S [c]) t) (.str y u)) Q E s := by
  refine in_str ?_
  have e : (!(Builtin.Str.occurrences y (S [c]) 0 y.length 1).isEmpty) = y.cps.toList.contains c := by
    show (!(Builtin.Str.occurrences y ⟨#[c]⟩ 0 y.length 1).isEmpty) = _
    rw [StrLaws.found_one, Bool.eq_iff_iff, decide_eq_true_eq, List.contains_iff_mem]
  rw [e]
  exact h
theorem op_notin {c : Nat} {y : Str} (h : Q (.bool (!y.cps.toList.contains c)) s) : wpAny (model prog w) A (compareOp .NotIn (.str (S [c]) t) (.str y u)) Q E s := by
  refine notIn_str ?_
  have e : (!(Builtin.Str.occurrences y (S [c]) 0 y.length 1).isEmpty) = y.cps.toList.contains c := by
    show (!(Builtin.Str.occurrences y ⟨#[c]⟩ 0 y.length 1).isEmpty) = _
    rw [StrLaws.found_one, Bool.eq_iff_iff, decide_eq_true_eq, List.contains_iff_mem]
  rw [e]
  exact h
theorem op_eq {y : Str} (h : Q (.bool (l == y.cps.toList)) s) : wpAny (model prog w) A (compareOp .Eq (.str (S l) t) (.str y u)) Q E s := by
  refine eq_str ?_
  rw [S_of y, S_beq]
  exact h
theorem op_ne {y : Str} (h : Q (.bool (!(l == y.cps.toList))) s) : wpAny (model prog w) A (compareOp .NotEq (.str (S l) t) (.str y u)) Q E s := by
  refine ne_str ?_
  rw [S_of y]
  show Q (.bool (!(S l == S y.cps.toList))) s
  rw [S_beq]
  exact h
theorem op_add {y : Str} (hb : l.length ≤ 100000) (hy : y.cps.toList.length ≤ 100000) (h : ∀ t' tk, Q (.str (S (l ++ y.cps.toList)) t') { s with toks := tk }) : wpAny (model prog w) A (binaryOp .Add (.str (S l) t) (.str y u)) Q E s := by
  refine add_str (hsz := by rw [sizeLine_eq, len_S, S_of y, len_S]; omega) fun t' tk => ?_
  rw [S_of y, S_append]
  exact h _ _
theorem op_add_l {y : Str} (hb : l.length ≤ 100000) (hy : y.cps.toList.length ≤ 100000) (h : ∀ t' tk, Q (.str (S (y.cps.toList ++ l)) t') { s with toks := tk }) : wpAny (model prog w) A (binaryOp .Add (.str y u) (.str (S l) t)) Q E s := by
  refine add_str (hsz := by rw [sizeLine_eq, len_S, S_of y, len_S]; omega) fun t' tk => ?_
  rw [S_of y, S_append]
  exact h _ _
theorem op_iadd {y : Str} (hb : l.length ≤ 100000) (hy : y.cps.toList.length ≤ 100000) (h : ∀ t' tk, Q (.str (S (l ++ y.cps.toList)) t') { s with toks := tk }) : wpAny (model prog w) A (inplaceOp .Add (.str (S l) t) (.str y u)) Q E s := by
  refine iadd_str (hsz := by rw [sizeLine_eq, len_S, S_of y, len_S]; omega) fun t' tk => ?_
  rw [S_of y, S_append]
  exact h _ _
theorem op_to {value slice : PySem.Expr} {k : Int} (hF : Fr h₀ L s.heap m) (hN : News h₀ L s.heap news) (hb : l.length ≤ 100000) (h : ∀ h' t' tk, Fr h₀ L h' m → News h₀ L h' news → Q (.str (S (cutTo l k)) t') { s with heap := h', toks := tk })
    (hs : subscripted slice false (.str (S l) t) (.ref s.heap.objs.size) = operate [.ref s.heap.objs.size, .str (S l) t] (getItem (.str (S l) t) (.ref s.heap.objs.size)) := by with_unfolding_all rfl)
    (ht : ∀ r, letTemporaryGo value (.str (S l) t) r = pure () := by intro _; with_unfolding_all rfl) :
    wpAny (model prog w) A (subscriptTail value slice (.str (S l) t) (.ref s.heap.objs.size)) Q E { s with heap := s.heap.push { cls := .type "slice", data := .fields #[.none, .int k u, .none] } } := by
  refine slice_strN_ns (hsz := by rw [sizeLine_eq, len_S]; omega) hF hN (fun h' t' tk F N => ?_) hs ht
  rw [slice_to_S]
  exact h _ _ _ F N
theorem op_from {value slice : PySem.Expr} {k : Int} (hF : Fr h₀ L s.heap m) (hN : News h₀ L s.heap news) (hb : l.length ≤ 100000) (h : ∀ h' t' tk, Fr h₀ L h' m → News h₀ L h' news → Q (.str (S (cutFrom l k)) t') { s with heap := h', toks := tk })
    (hs : subscripted slice false (.str (S l) t) (.ref s.heap.objs.size) = operate [.ref s.heap.objs.size, .str (S l) t] (getItem (.str (S l) t) (.ref s.heap.objs.size)) := by with_unfolding_all rfl)
    (ht : ∀ r, letTemporaryGo value (.str (S l) t) r = pure () := by intro _; with_unfolding_all rfl) :
    wpAny (model prog w) A (subscriptTail value slice (.str (S l) t) (.ref s.heap.objs.size)) Q E { s with heap := s.heap.push { cls := .type "slice", data := .fields #[.int k u, .none, .none] } } := by
  refine slice_strN_sn (hsz := by rw [sizeLine_eq, len_S]; omega) hF hN (fun h' t' tk F N => ?_) hs ht
  rw [slice_from_S]
  exact h _ _ _ F N
end

theorem Ctr.use {w : World} {d : Nat} {f : Addr} {news : List (Addr × Obj)} {vs : List Value} {Post : Value → List (Addr × Obj) → Prop}
    {mean : ExcName → Option Value} {mg mb : Str → Option Value} {dp un : Nat} {gd : Option (List Code)} {cn : Str} {cs : Scope} {a : Addr} {ccd : Value} {cl : List (Str × Addr)} {outer : List Env} {A₀ : Around} {base h₀ : Heap} {L : Addr} {m : Str → Option Value} {s : Shared} {Q E : Value → Shared → Prop}
    (C : Ctr w d f news vs Post) (B : Below A₀ base outer h₀) (F : Fr h₀ L s.heap m) (X : (frag.heap_1 w.params).In h₀) (N : News h₀ L s.heap news) (T : Top view LW mean mg mb h₀) (hk : cs.kind = .function)
    (hdp : dp + d < recursionLimit) (hun : un + 8 * d < cLine)
    (ret : ∀ v nx h' tk', Post v nx → Newer nx news → Fr h₀ L h' m → News h₀ L h' (nx ++ news) → Q v { s with heap := h', toks := tk' }) :
    wpAny (model PySem.Challenge.rw_iv0075_01.row.prog w) (ktrTop dp un gd cn cs L a ccd cl outer) (call (.ref f) vs) Q E s :=
  C _ _ _ _ _ _ _ _ _ _ _ _ _ _ _ _ _ _ _ _ B F X N T hk hdp hun ret
theorem room {dp d D lim : Nat} (h : dp + D < lim + 1) (e : d < D) : dp + d < lim := by omega
theorem roomU {un d D c : Nat} (h : un + 8 * D < c + 3) (e : d < D) : un + 8 * d < c := by omega
end
section
local macro_rules | `(tactic| walk_at "call builtin:len") => `(tactic| ((with_reducible refine op_len ?hb ?_); (case hb => first | omega | (simp only [List.length_take, List.length_append, List.length_cons, List.length_nil, cutTo, cutFrom, List.length_drop] at *; omega)); intro _ _; (try dsimp only)))
local macro_rules | `(tactic| walk_at "subscriptTail Name Name str int") => `(tactic| ((with_reducible refine op_item _ ?hi ?hb ?_); (case hi => omega); (case hb => omega); intro _ _; (try dsimp only)))
local macro_rules | `(tactic| walk_at "subscriptTail Name BinOp str int") => `(tactic| ((with_reducible refine op_itemZ ?h0 ?hi ?hb ?_); (case h0 => first | omega | (simp only [decide_eq_true_eq, beq_iff_eq] at *; omega)); (case hi => first | omega | (simp only [decide_eq_true_eq, beq_iff_eq] at *; omega)); (case hb => omega); intro _ _; (try dsimp only)))
local macro_rules | `(tactic| walk_at "subscriptTail Name Constant str int") => `(tactic| ((with_reducible refine op_itemZ ?h0 ?hi ?hb ?_); (case h0 => first | decide | omega); (case hi => first | omega | (simp only [decide_eq_true_eq, beq_iff_eq] at *; omega)); (case hb => omega); intro _ _; (try dsimp only)))
local macro_rules | `(tactic| walk_at "compareOp In str str") => `(tactic| (with_reducible refine op_in ?_))
local macro_rules | `(tactic| walk_at "compareOp NotIn str str") => `(tactic| (with_reducible refine op_notin ?_))
local macro_rules | `(tactic| walk_at "compareOp Eq str str") => `(tactic| (with_reducible refine op_eq ?_))
local macro_rules | `(tactic| walk_at "call builtin:str.endswith") => `(tactic| ((with_reducible refine SC.endswith ?_); (try rw [endswith_S])))
local macro_rules | `(tactic| walk_at "subscriptTail Name Slice str ref") => `(tactic| ((with_reducible show wpAny _ _ (subscriptTail _ (Expr.Slice none (some _) none _) _ _) _ _ _); (with_reducible rename Fr _ _ _ _ => F'); (with_reducible rename News _ _ _ _ => N'); (refine op_to (s := ⟨_, _, _, _, _⟩) F' N' ?hb ?_); (case hb => omega); intro _ _ _ _ _; (try dsimp only)))
local macro_rules | `(tactic| walk_at "subscriptTail Name Slice str ref") => `(tactic| ((with_reducible show wpAny _ _ (subscriptTail _ (Expr.Slice (some _) none none _) _ _) _ _ _); (with_reducible rename Fr _ _ _ _ => F'); (with_reducible rename News _ _ _ _ => N'); (refine op_from (s := ⟨_, _, _, _, _⟩) F' N' ?hb ?_); (case hb => omega); intro _ _ _ _ _; (try dsimp only)))
local macro_rules | `(tactic| walk_at "subscriptTail Name UnaryOp str int") => `(tactic| ((with_reducible refine op_itemN ?h0 ?hi ?hb ?_); (case h0 => decide); (case hi => first | omega | (simp only [decide_eq_true_eq, beq_iff_eq] at *; omega)); (case hb => omega); intro _ _; (try dsimp only)))
local macro_rules | `(tactic| walk_at "binaryOp Add str str") => `(tactic| ((with_reducible refine op_add ?hb ?hy ?_); (case hb => omega); (case hy => first | decide | (rw [S_cps]; omega)); intro _ _; (try simp only [S_cps]); (try dsimp only)))
local macro_rules | `(tactic| walk_at "inplaceOp Add str str") => `(tactic| ((with_reducible refine op_iadd ?hb ?hy ?_); (case hb => omega); (case hy => first | decide | (rw [S_cps]; omega)); intro _ _; (try simp only [S_cps]); (try dsimp only)))
local macro_rules | `(tactic| walk_at "compareOp NotEq str str") => `(tactic| (with_reducible refine op_ne ?_))
local macro_rules | `(tactic| walk_at "subscriptTail Name UnaryOp str int") => `(tactic| ((with_reducible refine op_itemN ?h0 ?hi ?hb ?_); (case h0 => decide); (case hi => exact pos_of_ne (by assumption)); (case hb => omega); intro _ _; (try dsimp only)))
local macro_rules | `(tactic| walk_at "subscriptTail Name Name str int") => `(tactic| ((with_reducible refine op_itemZ ?h0 ?hi ?hb ?_); (case h0 => omega); (case hi => omega); (case hb => omega); intro _ _; (try dsimp only)))
local macro_rules | `(tactic| walk_at "subscriptTail Name Name str int") => `(tactic| ((with_reducible refine op_item _ ?hi ?hb ?_); (case hi => omega); (case hb => omega); intro _ _; (try dsimp only)))
local macro_rules | `(tactic| walk_at "binaryOp Add str str") => `(tactic| ((with_reducible refine op_add_l ?hb ?hy ?_); (case hb => first | omega | (simp only [cutTo, cutFrom, List.length_take, List.length_drop]; omega)); (case hy => first | decide | (rw [S_cps]; omega)); intro _ _; (try simp only [S_cps]); (try dsimp only)))
local macro_rules | `(tactic| walk_at "binaryOp Add str str") => `(tactic| ((with_reducible refine op_add ?hb ?hy ?_); (case hb => first | omega | (simp only [cutTo, cutFrom, List.length_take, List.length_drop]; omega)); (case hy => first | decide | (rw [S_cps]; first | omega | (simp only [List.length_cons, List.length_nil]; omega))); intro _ _; (try simp only [S_cps]); (try dsimp only)))
noncomputable def runF (l : List Nat) (p : Nat) (sg : List Nat) (b : Bool) : Nat := p + ((l.drop p).takeWhile (fun c => sg.contains c == b)).length
theorem runF_stop {l : List Nat} {p : Nat} {sg : List Nat} {b : Bool} (h : l.length ≤ p) : runF l p sg b = p := by
  unfold runF
  rw [List.drop_eq_nil_of_le h]; rfl
theorem runF_no {l : List Nat} {p : Nat} {sg : List Nat} {b : Bool} (h : p < l.length) (hc : (sg.contains (l.getD p 0) == b) = false) : runF l p sg b = p := by
  unfold runF
  rw [List.drop_eq_getElem_cons h]
  rw [List.getD_eq_getElem?_getD, List.getElem?_eq_getElem h, Option.getD_some] at hc
  rw [List.takeWhile_cons_of_neg (by rw [hc]; decide)]; rfl
theorem runF_yes {l : List Nat} {p : Nat} {sg : List Nat} {b : Bool} (h : p < l.length) (hc : (sg.contains (l.getD p 0) == b) = true) : runF l p sg b = runF l (p + 1) sg b := by
  unfold runF
  rw [List.drop_eq_getElem_cons h]
  rw [List.getD_eq_getElem?_getD, List.getElem?_eq_getElem h, Option.getD_some] at hc
  rw [List.takeWhile_cons_of_pos (by exact hc), List.length_cons]; omega

theorem runF_le {l : List Nat} {p : Nat} {sg : List Nat} {b : Bool} {n : Nat} (h : l.length ≤ n) (hp : p ≤ n) : runF l p sg b ≤ n := by
  unfold runF
  have h1 := List.Sublist.length_le (List.takeWhile_sublist (fun c => sg.contains c == b) (l := l.drop p))
  rw [List.length_drop] at h1
  by_cases h2 : p ≤ l.length
  · omega
  · have h3 : (l.drop p) = [] := List.drop_eq_nil_of_le (by omega)
    rw [h3]; simpa using hp

theorem run_ctr (w : World) (news : List (Addr × Obj)) (l : List Nat) (tx : Tok) (p : Nat) (tp : Tok) (sg : Str) (ts : Tok) (b : Bool) (hx : l.length ≤ 1000) (hp : p ≤ 1000) :
    Ctr w 1 24 news [.str (S l) tx, .int p tp, .str sg ts, .bool b] fun v nx => ∃ t, v = .int (runF l p sg.cps.toList b) t ∧ nx = [] ∧ runF l p sg.cps.toList b ≤ 1000 := by
  w_top off
  have hfill : PySem.Challenge.rw_iv0075_01 = PySem.Challenge.rw_iv0075_01 ∧ frag.heap_1 = frag.heap_1 := by
    k_fill
    exact ⟨rfl, rfl⟩
  refine' Ctr.intro [(Str.ofString "s", .str (S l) tx), (Str.ofString "p", .int p tp), (Str.ofString "signs", .str sg ts), (Str.ofString "inside", .bool b)] ?k1 ?k2 ?k3 ?k4 ?k5 ?k6 ?k7 ?k8 ?_
  case k1 => k_is
  case k2 => k_is
  case k3 => rfl
  case k4 => exact locs rfl
  case k5 => rfl
  case k6 => rfl
  case k7 => rfl
  case k8 => decide
  intro mean mg mb dp un gd outer A₀ base g L s B F X N T hdp hun
  refine wpAny_execs_cons ?_
  refine ksw_while (σ := Nat × Tok) (fun _ => news) (fun c => [(Str.ofString "p", .int c.1 c.2)]) (fun _ => True) [] (fun c => c.1 ≤ 1000 ∧ runF l p sg.cps.toList b = runF l c.1 sg.cps.toList b) (fun c => l.length - c.1) (p, tp) F N trivial (by intro z hz; cases hz with | head => rfl | tail _ h => cases h) ⟨hp, rfl⟩ ?_ PassesOwn.never
  rintro ⟨q, t⟩ u h tk _ ⟨h2, h3⟩ F₁ N₁
  dsimp only at h2 h3 F₁
  k_steps
  · (rename Fr _ _ _ _ => F9); (rename News _ _ _ _ => N9)
    rename (_ == _) = true => hc
    refine ksw_end (q + 1, _) F9 N9 (fun _ h => h) trivial (by intro z hz; cases hz with | head => rfl | tail _ h => cases h) ?_ ⟨by dsimp only; omega, by rw [h3]; exact runF_yes (by omega) hc⟩ (by dsimp only; omega)
    intro z hz _
    have h1 : z ≠ Str.ofString "p" := hz _ (.head _)
    simp only [kstB, if_neg h1]; rfl
  · (rename Fr _ _ _ _ => F9); (rename News _ _ _ _ => N9)
    rename (_ == _) = false => hc
    exact BodyPost.plain F9 N9 (fun _ h => h) ⟨t, by rw [h3, runF_no (by omega) hc], rfl, runF_le hx hp⟩
  · (rename Fr _ _ _ _ => F9); (rename News _ _ _ _ => N9)
    exact BodyPost.plain F9 N9 (fun _ h => h) ⟨t, by rw [h3, runF_stop (by omega)], rfl, runF_le hx hp⟩
end
section
local macro_rules | `(tactic| walk_at "call builtin:len") => `(tactic| ((with_reducible refine op_len ?hb ?_); (case hb => first | omega | (simp only [List.length_take, List.length_append, List.length_cons, List.length_nil, cutTo, cutFrom, List.length_drop] at *; omega)); intro _ _; (try dsimp only)))
local macro_rules | `(tactic| walk_at "subscriptTail Name Name str int") => `(tactic| ((with_reducible refine op_item _ ?hi ?hb ?_); (case hi => omega); (case hb => omega); intro _ _; (try dsimp only)))
local macro_rules | `(tactic| walk_at "subscriptTail Name BinOp str int") => `(tactic| ((with_reducible refine op_itemZ ?h0 ?hi ?hb ?_); (case h0 => first | omega | (simp only [decide_eq_true_eq, beq_iff_eq] at *; omega)); (case hi => first | omega | (simp only [decide_eq_true_eq, beq_iff_eq] at *; omega)); (case hb => omega); intro _ _; (try dsimp only)))
local macro_rules | `(tactic| walk_at "subscriptTail Name Constant str int") => `(tactic| ((with_reducible refine op_itemZ ?h0 ?hi ?hb ?_); (case h0 => first | decide | omega); (case hi => first | omega | (simp only [decide_eq_true_eq, beq_iff_eq] at *; omega)); (case hb => omega); intro _ _; (try dsimp only)))
local macro_rules | `(tactic| walk_at "compareOp In str str") => `(tactic| (with_reducible refine op_in ?_))
local macro_rules | `(tactic| walk_at "compareOp NotIn str str") => `(tactic| (with_reducible refine op_notin ?_))
local macro_rules | `(tactic| walk_at "compareOp Eq str str") => `(tactic| (with_reducible refine op_eq ?_))
local macro_rules | `(tactic| walk_at "call builtin:str.endswith") => `(tactic| ((with_reducible refine SC.endswith ?_); (try rw [endswith_S])))
local macro_rules | `(tactic| walk_at "subscriptTail Name Slice str ref") => `(tactic| ((with_reducible show wpAny _ _ (subscriptTail _ (Expr.Slice none (some _) none _) _ _) _ _ _); (with_reducible rename Fr _ _ _ _ => F'); (with_reducible rename News _ _ _ _ => N'); (refine op_to (s := ⟨_, _, _, _, _⟩) F' N' ?hb ?_); (case hb => omega); intro _ _ _ _ _; (try dsimp only)))
local macro_rules | `(tactic| walk_at "subscriptTail Name Slice str ref") => `(tactic| ((with_reducible show wpAny _ _ (subscriptTail _ (Expr.Slice (some _) none none _) _ _) _ _ _); (with_reducible rename Fr _ _ _ _ => F'); (with_reducible rename News _ _ _ _ => N'); (refine op_from (s := ⟨_, _, _, _, _⟩) F' N' ?hb ?_); (case hb => omega); intro _ _ _ _ _; (try dsimp only)))
local macro_rules | `(tactic| walk_at "subscriptTail Name UnaryOp str int") => `(tactic| ((with_reducible refine op_itemN ?h0 ?hi ?hb ?_); (case h0 => decide); (case hi => first | omega | (simp only [decide_eq_true_eq, beq_iff_eq] at *; omega)); (case hb => omega); intro _ _; (try dsimp only)))
local macro_rules | `(tactic| walk_at "binaryOp Add str str") => `(tactic| ((with_reducible refine op_add ?hb ?hy ?_); (case hb => omega); (case hy => first | decide | (rw [S_cps]; omega)); intro _ _; (try simp only [S_cps]); (try dsimp only)))
local macro_rules | `(tactic| walk_at "inplaceOp Add str str") => `(tactic| ((with_reducible refine op_iadd ?hb ?hy ?_); (case hb => omega); (case hy => first | decide | (rw [S_cps]; omega)); intro _ _; (try simp only [S_cps]); (try dsimp only)))
local macro_rules | `(tactic| walk_at "compareOp NotEq str str") => `(tactic| (with_reducible refine op_ne ?_))
local macro_rules | `(tactic| walk_at "subscriptTail Name UnaryOp str int") => `(tactic| ((with_reducible refine op_itemN ?h0 ?hi ?hb ?_); (case h0 => decide); (case hi => exact pos_of_ne (by assumption)); (case hb => omega); intro _ _; (try dsimp only)))
local macro_rules | `(tactic| walk_at "subscriptTail Name Name str int") => `(tactic| ((with_reducible refine op_itemZ ?h0 ?hi ?hb ?_); (case h0 => omega); (case hi => omega); (case hb => omega); intro _ _; (try dsimp only)))
local macro_rules | `(tactic| walk_at "subscriptTail Name Name str int") => `(tactic| ((with_reducible refine op_item _ ?hi ?hb ?_); (case hi => omega); (case hb => omega); intro _ _; (try dsimp only)))
local macro_rules | `(tactic| walk_at "binaryOp Add str str") => `(tactic| ((with_reducible refine op_add_l ?hb ?hy ?_); (case hb => first | omega | (simp only [cutTo, cutFrom, List.length_take, List.length_drop]; omega)); (case hy => first | decide | (rw [S_cps]; omega)); intro _ _; (try simp only [S_cps]); (try dsimp only)))
local macro_rules | `(tactic| walk_at "binaryOp Add str str") => `(tactic| ((with_reducible refine op_add ?hb ?hy ?_); (case hb => first | omega | (simp only [cutTo, cutFrom, List.length_take, List.length_drop]; omega)); (case hy => first | decide | (rw [S_cps]; first | omega | (simp only [List.length_cons, List.length_nil]; omega))); intro _ _; (try simp only [S_cps]); (try dsimp only)))
local macro_rules | `(tactic| walk_at "call ref") => `(tactic| ((with_reducible show wpAny _ _ (call (Value.ref 24) _) _ _ _); k_dflt (refine' Ctr.use (run_ctr _ _ _ _ _ _ _ _ _ ?hx ?hp) ?k1 ?k2 ?k3 ?k4 ?k5 ?k6 ?k7 ?k8 ?_; (case k1 => k_asm); (case k2 => k_asm); (case k3 => k_asm); (case k4 => k_asm); (case k5 => k_asm); (case k6 => rfl)); (case hx => omega); (case hp => first | exact Nat.zero_le _ | omega); (case k7 => first | exact room (by assumption) (by decide) | decide | omega); (case k8 => first | exact roomU (by assumption) (by decide) | decide | omega); (intro v9 nx9 h9 tk9 hP9 hO9 F9 N9); (obtain ⟨t9, hv9, hn9, hb9⟩ := hP9); (subst hv9); (subst hn9); (try dsimp only); (try simp only [List.nil_append, List.cons_append] at N9)))
abbrev V6 : List Nat := (Str.ofString "aeiouy").cps.toList
abbrev V5 : List Nat := (Str.ofString "aeiou").cps.toList
abbrev V9 : List Nat := (Str.ofString "aeiouwxy").cps.toList
abbrev VZ : List Nat := (Str.ofString "aeiouylsz").cps.toList
noncomputable def rP (l : List Nat) : Nat := runF l 0 V6 false
noncomputable def rQ (l : List Nat) : Nat := runF l (rP l) V5 true
noncomputable def rR (l : List Nat) : Nat := runF l (rQ l) V6 false
noncomputable def rT (l : List Nat) : Nat := runF l (rR l) V5 true
noncomputable def rU (l : List Nat) : Nat := runF l (rT l) V6 false
noncomputable def mgr0F (l : List Nat) : Bool := decide (rP l < rQ l) && decide (rQ l < rR l)
noncomputable def meq1F (l : List Nat) : Bool := decide (rP l < rQ l) && (decide (rQ l < rR l) && decide (rT l = l.length))
noncomputable def mgr1F (l : List Nat) : Bool := decide (rP l < rQ l) && (decide (rQ l < rR l) && (decide (rR l < rT l) && decide (rT l < rU l)))
noncomputable def svF (l : List Nat) : Bool := decide (rP l < l.length)
noncomputable def cvF (l : List Nat) : Bool := decide (0 < rP l) && (decide (rP l + 2 = l.length) && !V9.contains (l.getD (rP l + 1) 0))
theorem mgr0_ctr (w : World) (news : List (Addr × Obj)) (l : List Nat) (tx : Tok) (hx : l.length ≤ 1000) :
    Ctr w 2 31 news [.str (S l) tx] fun v nx => v = .bool (mgr0F l) ∧ nx = [] := by
  w_top off
  have hfill : PySem.Challenge.rw_iv0075_01 = PySem.Challenge.rw_iv0075_01 ∧ frag.heap_1 = frag.heap_1 := by
    k_fill
    exact ⟨rfl, rfl⟩
  refine' Ctr.intro [(Str.ofString "s", .str (S l) tx)] ?k1 ?k2 ?k3 ?k4 ?k5 ?k6 ?k7 ?k8 ?_
  case k1 => k_is
  case k2 => k_is
  case k3 => rfl
  case k4 => exact locs rfl
  case k5 => rfl
  case k6 => rfl
  case k7 => rfl
  case k8 => decide
  intro mean mg mb dp un gd outer A₀ base g L s B F X N T hdp hun
  try k_fold
  k_steps
  all_goals ((try dsimp only); (rename Fr _ _ _ _ => F9); (rename News _ _ _ _ => N9); refine BodyPost.plain F9 N9 (by intro p hp; first | exact hp | exact .tail _ hp) ⟨congrArg Value.bool ?_, rfl⟩)
  all_goals (rw [Bool.eq_iff_iff]; simp only [mgr0F, Bool.and_eq_true, decide_eq_true_eq, beq_iff_eq] at *; simp only [rU, rT, rR, rQ, rP, V5, V6] at *; refine ⟨fun h => ?_, fun h => ?_⟩ <;> omega)

theorem meq1_ctr (w : World) (news : List (Addr × Obj)) (l : List Nat) (tx : Tok) (hx : l.length ≤ 1000) :
    Ctr w 2 38 news [.str (S l) tx] fun v nx => v = .bool (meq1F l) ∧ nx = [] := by
  w_top off
  have hfill : PySem.Challenge.rw_iv0075_01 = PySem.Challenge.rw_iv0075_01 ∧ frag.heap_1 = frag.heap_1 := by
    k_fill
    exact ⟨rfl, rfl⟩
  refine' Ctr.intro [(Str.ofString "s", .str (S l) tx)] ?k1 ?k2 ?k3 ?k4 ?k5 ?k6 ?k7 ?k8 ?_
  case k1 => k_is
  case k2 => k_is
  case k3 => rfl
  case k4 => exact locs rfl
  case k5 => rfl
  case k6 => rfl
  case k7 => rfl
  case k8 => decide
  intro mean mg mb dp un gd outer A₀ base g L s B F X N T hdp hun
  try k_fold
  k_steps
  all_goals ((try dsimp only); (rename Fr _ _ _ _ => F9); (rename News _ _ _ _ => N9); refine BodyPost.plain F9 N9 (by intro p hp; first | exact hp | exact .tail _ hp) ⟨congrArg Value.bool ?_, rfl⟩)
  all_goals (rw [Bool.eq_iff_iff]; simp only [meq1F, Bool.and_eq_true, decide_eq_true_eq, beq_iff_eq] at *; simp only [rU, rT, rR, rQ, rP, V5, V6] at *; refine ⟨fun h => ?_, fun h => ?_⟩ <;> omega)

theorem mgr1_ctr (w : World) (news : List (Addr × Obj)) (l : List Nat) (tx : Tok) (hx : l.length ≤ 1000) :
    Ctr w 2 45 news [.str (S l) tx] fun v nx => v = .bool (mgr1F l) ∧ nx = [] := by
  w_top off
  have hfill : PySem.Challenge.rw_iv0075_01 = PySem.Challenge.rw_iv0075_01 ∧ frag.heap_1 = frag.heap_1 := by
    k_fill
    exact ⟨rfl, rfl⟩
  refine' Ctr.intro [(Str.ofString "s", .str (S l) tx)] ?k1 ?k2 ?k3 ?k4 ?k5 ?k6 ?k7 ?k8 ?_
  case k1 => k_is
  case k2 => k_is
  case k3 => rfl
  case k4 => exact locs rfl
  case k5 => rfl
  case k6 => rfl
  case k7 => rfl
  case k8 => decide
  intro mean mg mb dp un gd outer A₀ base g L s B F X N T hdp hun
  try k_fold
  k_steps
  all_goals ((try dsimp only); (rename Fr _ _ _ _ => F9); (rename News _ _ _ _ => N9); refine BodyPost.plain F9 N9 (by intro p hp; first | exact hp | exact .tail _ hp) ⟨congrArg Value.bool ?_, rfl⟩)
  all_goals (rw [Bool.eq_iff_iff]; simp only [mgr1F, Bool.and_eq_true, decide_eq_true_eq, beq_iff_eq] at *; simp only [rU, rT, rR, rQ, rP, V5, V6] at *; refine ⟨fun h => ?_, fun h => ?_⟩ <;> omega)

theorem sv_ctr (w : World) (news : List (Addr × Obj)) (l : List Nat) (tx : Tok) (hx : l.length ≤ 1000) :
    Ctr w 2 52 news [.str (S l) tx] fun v nx => v = .bool (svF l) ∧ nx = [] := by
  w_top off
  have hfill : PySem.Challenge.rw_iv0075_01 = PySem.Challenge.rw_iv0075_01 ∧ frag.heap_1 = frag.heap_1 := by
    k_fill
    exact ⟨rfl, rfl⟩
  refine' Ctr.intro [(Str.ofString "s", .str (S l) tx)] ?k1 ?k2 ?k3 ?k4 ?k5 ?k6 ?k7 ?k8 ?_
  case k1 => k_is
  case k2 => k_is
  case k3 => rfl
  case k4 => exact locs rfl
  case k5 => rfl
  case k6 => rfl
  case k7 => rfl
  case k8 => decide
  intro mean mg mb dp un gd outer A₀ base g L s B F X N T hdp hun
  try k_fold
  k_steps
  all_goals ((try dsimp only); (rename Fr _ _ _ _ => F9); (rename News _ _ _ _ => N9); refine BodyPost.plain F9 N9 (by intro p hp; first | exact hp | exact .tail _ hp) ⟨congrArg Value.bool ?_, rfl⟩)
  all_goals (rw [Bool.eq_iff_iff]; simp only [svF, Bool.and_eq_true, decide_eq_true_eq, beq_iff_eq] at *; simp only [rU, rT, rR, rQ, rP, V5, V6] at *; refine ⟨fun h => ?_, fun h => ?_⟩ <;> omega)
end
section
/-- a mark: the walk stops here -/
noncomputable def Hold (p : Prop) : Prop := p
theorem Hold.mk {p : Prop} (h : Hold p) : p := h
/-- the list that is gone over stands: in the base, or on the ledger -/
noncomputable def Kept (h₀ : Heap) (nx : List (Addr × Obj)) (l : Addr) (vs : List Value) (n : Nat) : Prop := h₀.IsList l vs.toArray ∨ (l, listOf vs.toArray n) ∈ nx

noncomputable def TurnEnd {σ : Type} (h₀ : Heap) (L : Addr) (Led : σ → List (Addr × Obj)) (ps : σ → List (Str × Value)) (x : Str) (stored : List Str) (m₀ : Str → Option Value) (P : σ → Prop) (I : Addr) (oI : Obj) (s₁ s₂ : Shared) : Prop :=
  ∃ (c : σ) (h' : Heap) (tk : Nat) (m' : Str → Option Value) (news' : List (Addr × Obj)), s₂ = { s₁ with heap := h', toks := tk } ∧ Fr h₀ L h' m' ∧ News h₀ L h' news' ∧ (I, oI) ∈ news' ∧ (∀ p ∈ Led c, p ∈ news') ∧ (∀ p ∈ Led c, p.1 ≠ I) ∧
    (∀ p ∈ ps c, m' p.1 = some p.2) ∧ (∀ z, z ≠ x → (∀ p ∈ ps c, z ≠ p.1) → stored.contains z = false → m' z = m₀ z) ∧ P c
noncomputable def TurnPost {σ : Type} (h₀ : Heap) (L : Addr) (Led : σ → List (Addr × Obj)) (ps : σ → List (Str × Value)) (x : Str) (stored : List Str) (m₀ : Str → Option Value) (P : σ → Prop) (I : Addr) (oI : Obj) (s₁ : Shared) (Q : Flow → Shared → Prop) (fl : Flow) (s₂ : Shared) : Prop :=
  match fl with
  | .ret v => Q (.ret v) s₂
  | .brk => Q .next s₂
  | _ => TurnEnd h₀ L Led ps x stored m₀ P I oI s₁ s₂

theorem loopS {prog : Program} {w : World} {A : Around} {E : Value → Shared → Prop} {s : Shared} {env : Env} {h₀ : Heap} {x : Str} {body : List Stmt} {Q : Flow → Shared → Prop}
    {σ : Type} {l : Addr} {vs : List Value} {n : Nat} {m₀ : Str → Option Value} (Led : σ → List (Addr × Obj)) (ps : σ → List (Str × Value)) (stored : List Str) (P : Nat → σ → Prop) (c₀ : σ)
    (hh : A.handled = none) (hl : ∀ c, Kept h₀ (Led c) l vs n) (F : Fr h₀ env.locals s.heap m₀) (N : News h₀ env.locals s.heap (Led c₀)) (hk : ∀ p ∈ ps c₀, m₀ p.1 = some p.2) (hp : P 0 c₀)
    (turn : ∀ (i : Nat) (v : Value) (c : σ) (u : Str → Option Value) (h : Heap) (tk : Nat) (I : Addr) (oI : Obj), vs[i]? = some v → P i c → (∀ p ∈ Led c, p.1 ≠ I) →
      Fr h₀ env.locals h (fun y => if y = x then some v else kstB (fun z => if stored.contains z then u z else m₀ z) (ps c) y) → News h₀ env.locals h ((I, oI) :: Led c) →
      wpAny (model prog w) A (execs body env) (TurnPost h₀ env.locals Led ps x stored m₀ (P (i + 1)) I oI { s with heap := h, toks := tk } Q) E { s with heap := h, toks := tk })
    (done : ∀ (c : σ) (u : Str → Option Value) (h : Heap) (tk : Nat), P vs.length c → Fr h₀ env.locals h (fun y => if y = x then u y else kstB (fun z => if stored.contains z then u z else m₀ z) (ps c) y) → News h₀ env.locals h (Led c) → Q .next { s with heap := h, toks := tk }) :
    wpAny (model prog w) A (pyIter (.ref l)) (fun it s₂ => LoopAtV prog w A h₀ env x body Q E it s₂) E s := by
  have hsome : ∃ o, s.heap.get? l = some o ∧ o.cls = .type "list" ∧ ∃ k, o.data = .seq vs.toArray k := by
    rcases hl c₀ with h | h
    · exact h.at fun o e => F.keep l o e
    · exact ⟨_, (N _ h).1, rfl, n, rfl⟩
  have hls : s.heap.IsList l vs.toArray := hsome
  obtain ⟨ol, hol, _⟩ := hsome
  have hne : l ≠ s.heap.objs.size := Nat.ne_of_lt (Heap.lt_size hol)
  have hnL : env.locals ≠ l := by
    rcases hl c₀ with h | h
    · obtain ⟨o, ho, _⟩ := h
      exact fun e => absurd (Nat.lt_of_lt_of_le (Heap.lt_size ho) F.above) (e ▸ Nat.lt_irrefl _)
    · exact fun e => (N _ h).2.1 e.symm
  refine wpAny_pyIter_list hls ?_
  have W := Walks.list (prog := prog) (w := w) hh s.heap.objs.size l hne vs.toArray
  have hlen : vs.toArray.size = vs.length := by simp
  rw [hlen] at W
  let J : Nat → (Str → Option Value) → List (Addr × Obj) → Prop := fun i m nx => ∃ c, nx = Led c ∧ P i c ∧ (∀ p ∈ ps c, m p.1 = some p.2) ∧ (∀ z, z ≠ x → (∀ p ∈ ps c, z ≠ p.1) → stored.contains z = false → m z = m₀ z)
  refine ⟨_, _, _, vs.length, _, _, m₀, Led c₀, J, rfl, W, ?_, ?_, ?_, ⟨⟨_, Heap.get?_push_size _ rfl, rfl, rfl⟩, hls.at fun o e => Heap.get?_push_of_some _ e⟩, F.push _, (fun p hp => ⟨Heap.get?_push_of_some _ (N p hp).1, (N p hp).2⟩), ⟨c₀, rfl, hp, hk, fun _ _ _ _ => rfl⟩, ?_, ?_⟩
  · intro hm
    rcases List.mem_cons.mp hm with e | hm
    · exact absurd F.ns.lt (e ▸ Nat.lt_irrefl _)
    · exact hnL (List.mem_singleton.mp hm)
  · intro b hb
    rw [List.mem_singleton.mp hb]
    exact next_is_new F
  · intro p hp hI
    exact absurd (Heap.lt_size (N p hp).1) ((List.mem_singleton.mp hI) ▸ Nat.lt_irrefl _)
  · rintro i v m₁ nx s₁ own ⟨hh', tk', rfl⟩ hin hP ⟨c, rfl, hPc, h1, h2⟩ hoff hown hget hfp hst F₁ N₁
    have hP' : vs[i]? = some v := by simpa using hP
    have hI0 : h₀.get? s.heap.objs.size = none := next_is_new F
    obtain ⟨⟨oI, hoI, _⟩, _⟩ := id hst
    have hIown : (s.heap.objs.size, oI) ∈ own := hfp _ (List.mem_cons.mpr (.inl rfl)) hI0 _ hoI
    have hsep : ∀ p ∈ Led c, p.1 ≠ s.heap.objs.size := fun p hp e => hoff p hp (List.mem_singleton.mpr e)
    have N₂ : News h₀ env.locals hh' ((s.heap.objs.size, oI) :: Led c) := fun p hp => by
      rcases List.mem_cons.mp hp with rfl | hp
      · exact N₁ _ (List.mem_append.mpr (.inl hIown))
      · exact N₁ _ (List.mem_append.mpr (.inr hp))
    refine wpAny_mono (turn i v c m₁ hh' tk' _ oI hP' hPc hsep (kst_fr h1 h2 F₁) N₂) (fun f s₂ q => ?_) fun _ _ e => e
    have fin : TurnEnd h₀ env.locals Led ps x stored m₀ (P (i + 1)) s.heap.objs.size oI { s with heap := hh', toks := tk' } s₂ →
        LoopStepU h₀ env.locals [s.heap.objs.size] own (J (i + 1)) { s with heap := hh', toks := tk' } .next s₂ := by
      rintro ⟨c', h', tk, m', news', e, F', N', hIn, hn, hI', h1', h2', hP''⟩
      refine ⟨rfl, h', tk, m', Led c', e, F', fun p hp => ?_, fun p hp hq => hI' p hp (List.mem_singleton.mp hq), c', rfl, hP'', h1', h2'⟩
      rcases List.mem_append.mp hp with h | h
      · by_cases hI : p.1 = s.heap.objs.size
        · have h3 : hh'.get? p.1 = some p.2 := hget p h
          rw [hI, hoI] at h3
          have h4 : p = (s.heap.objs.size, oI) := Prod.ext hI (Option.some.inj h3).symm
          rw [h4]
          exact N' _ hIn
        · have hpl : p.1 = l := by
            rcases List.mem_cons.mp (hown p h) with h2 | h2
            · exact absurd h2 hI
            · exact List.mem_singleton.mp h2
          have hno : h₀.get? l = none := by
            have := (N₁ p (List.mem_append.mpr (.inl h))).2.2
            rwa [hpl] at this
          have led : ∀ c'', (l, listOf vs.toArray n) ∈ Led c'' := fun c'' => by
            rcases hl c'' with ⟨o, ho, _⟩ | hq
            · rw [hno] at ho; cases ho
            · exact hq
          have h3 : hh'.get? p.1 = some p.2 := hget p h
          rw [hpl, (N₂ _ (List.mem_cons.mpr (.inr (led c)))).1] at h3
          have h4 : p = (l, listOf vs.toArray n) := Prod.ext hpl (Option.some.inj h3).symm
          rw [h4]
          exact N' _ (hn _ (led c'))
      · exact N' p (hn p h)
    cases f with
    | ret v => exact .ret q
    | brk => exact .brk q
    | next => exact .next (fin q)
    | cont => exact .cont (fin q)
  · rintro h' tk m' news' F' N' _ ⟨c, rfl, hPc, h1, h2⟩
    exact done c m' h' tk hPc (kst_frOut h1 h2 F') N'

theorem TurnEnd.intro {σ : Type} {h₀ : Heap} {L : Addr} {Led : σ → List (Addr × Obj)} {ps : σ → List (Str × Value)} {x : Str} {stored : List Str} {m₀ : Str → Option Value} {P : σ → Prop} {I : Addr} {oI : Obj} {s₁ : Shared} {h' : Heap} {tk : Nat} {m' : Str → Option Value} {news' : List (Addr × Obj)} (c : σ)
    (F : Fr h₀ L h' m') (N : News h₀ L h' news') (hI : (I, oI) ∈ news') (hn : ∀ p ∈ Led c, p ∈ news') (ho : ∀ p ∈ Led c, p.1 ≠ I) (h1 : ∀ p ∈ ps c, m' p.1 = some p.2) (h2 : ∀ z, z ≠ x → (∀ p ∈ ps c, z ≠ p.1) → stored.contains z = false → m' z = m₀ z) (hp : P c) :
    TurnEnd h₀ L Led ps x stored m₀ P I oI s₁ { s₁ with heap := h', toks := tk } := ⟨c, h', tk, m', news', rfl, F, N, hI, hn, ho, h1, h2, hp⟩
theorem TurnPost.next {σ : Type} {h₀ : Heap} {L : Addr} {Led : σ → List (Addr × Obj)} {ps : σ → List (Str × Value)} {x : Str} {stored : List Str} {m₀ : Str → Option Value} {P : σ → Prop} {I : Addr} {oI : Obj} {s₁ : Shared} {Q : Flow → Shared → Prop} {h' : Heap} {tk : Nat} {m' : Str → Option Value} {news' : List (Addr × Obj)} (c : σ)
    (F : Fr h₀ L h' m') (N : News h₀ L h' news') (hI : (I, oI) ∈ news') (hn : ∀ p ∈ Led c, p ∈ news') (ho : ∀ p ∈ Led c, p.1 ≠ I) (h1 : ∀ p ∈ ps c, m' p.1 = some p.2) (h2 : ∀ z, z ≠ x → (∀ p ∈ ps c, z ≠ p.1) → stored.contains z = false → m' z = m₀ z) (hp : P c) :
    TurnPost h₀ L Led ps x stored m₀ P I oI s₁ Q .next { s₁ with heap := h', toks := tk } := TurnEnd.intro c F N hI hn ho h1 h2 hp
end
section
local macro_rules | `(tactic| walk_at "zz none 0") => `(tactic| skip)
local macro_rules | `(tactic| walk_at "call builtin:len") => `(tactic| ((with_reducible refine op_len ?hb ?_); (case hb => first | omega | (simp only [List.length_take, List.length_append, List.length_cons, List.length_nil, cutTo, cutFrom, List.length_drop] at *; omega)); intro _ _; (try dsimp only)))
local macro_rules | `(tactic| walk_at "subscriptTail Name Name str int") => `(tactic| ((with_reducible refine op_item _ ?hi ?hb ?_); (case hi => omega); (case hb => omega); intro _ _; (try dsimp only)))
local macro_rules | `(tactic| walk_at "subscriptTail Name BinOp str int") => `(tactic| ((with_reducible refine op_itemZ ?h0 ?hi ?hb ?_); (case h0 => first | omega | (simp only [decide_eq_true_eq, beq_iff_eq] at *; omega)); (case hi => first | omega | (simp only [decide_eq_true_eq, beq_iff_eq] at *; omega)); (case hb => omega); intro _ _; (try dsimp only)))
local macro_rules | `(tactic| walk_at "subscriptTail Name Constant str int") => `(tactic| ((with_reducible refine op_itemZ ?h0 ?hi ?hb ?_); (case h0 => first | decide | omega); (case hi => first | omega | (simp only [decide_eq_true_eq, beq_iff_eq] at *; omega)); (case hb => omega); intro _ _; (try dsimp only)))
local macro_rules | `(tactic| walk_at "compareOp In str str") => `(tactic| (with_reducible refine op_in ?_))
local macro_rules | `(tactic| walk_at "compareOp NotIn str str") => `(tactic| (with_reducible refine op_notin ?_))
local macro_rules | `(tactic| walk_at "compareOp Eq str str") => `(tactic| (with_reducible refine op_eq ?_))
local macro_rules | `(tactic| walk_at "call builtin:str.endswith") => `(tactic| ((with_reducible refine SC.endswith ?_); (try rw [endswith_S])))
local macro_rules | `(tactic| walk_at "subscriptTail Name Slice str ref") => `(tactic| ((with_reducible show wpAny _ _ (subscriptTail _ (Expr.Slice none (some _) none _) _ _) _ _ _); (with_reducible rename Fr _ _ _ _ => F'); (with_reducible rename News _ _ _ _ => N'); (refine op_to (s := ⟨_, _, _, _, _⟩) F' N' ?hb ?_); (case hb => omega); intro _ _ _ _ _; (try dsimp only)))
local macro_rules | `(tactic| walk_at "subscriptTail Name Slice str ref") => `(tactic| ((with_reducible show wpAny _ _ (subscriptTail _ (Expr.Slice (some _) none none _) _ _) _ _ _); (with_reducible rename Fr _ _ _ _ => F'); (with_reducible rename News _ _ _ _ => N'); (refine op_from (s := ⟨_, _, _, _, _⟩) F' N' ?hb ?_); (case hb => omega); intro _ _ _ _ _; (try dsimp only)))
local macro_rules | `(tactic| walk_at "subscriptTail Name UnaryOp str int") => `(tactic| ((with_reducible refine op_itemN ?h0 ?hi ?hb ?_); (case h0 => decide); (case hi => first | omega | (simp only [decide_eq_true_eq, beq_iff_eq] at *; omega)); (case hb => omega); intro _ _; (try dsimp only)))
local macro_rules | `(tactic| walk_at "binaryOp Add str str") => `(tactic| ((with_reducible refine op_add ?hb ?hy ?_); (case hb => omega); (case hy => first | decide | (rw [S_cps]; omega)); intro _ _; (try simp only [S_cps]); (try dsimp only)))
local macro_rules | `(tactic| walk_at "inplaceOp Add str str") => `(tactic| ((with_reducible refine op_iadd ?hb ?hy ?_); (case hb => omega); (case hy => first | decide | (rw [S_cps]; omega)); intro _ _; (try simp only [S_cps]); (try dsimp only)))
local macro_rules | `(tactic| walk_at "compareOp NotEq str str") => `(tactic| (with_reducible refine op_ne ?_))
local macro_rules | `(tactic| walk_at "subscriptTail Name UnaryOp str int") => `(tactic| ((with_reducible refine op_itemN ?h0 ?hi ?hb ?_); (case h0 => decide); (case hi => exact pos_of_ne (by assumption)); (case hb => omega); intro _ _; (try dsimp only)))
local macro_rules | `(tactic| walk_at "subscriptTail Name Name str int") => `(tactic| ((with_reducible refine op_itemZ ?h0 ?hi ?hb ?_); (case h0 => omega); (case hi => omega); (case hb => omega); intro _ _; (try dsimp only)))
local macro_rules | `(tactic| walk_at "subscriptTail Name Name str int") => `(tactic| ((with_reducible refine op_item _ ?hi ?hb ?_); (case hi => omega); (case hb => omega); intro _ _; (try dsimp only)))
local macro_rules | `(tactic| walk_at "binaryOp Add str str") => `(tactic| ((with_reducible refine op_add_l ?hb ?hy ?_); (case hb => first | omega | (simp only [cutTo, cutFrom, List.length_take, List.length_drop]; omega)); (case hy => first | decide | (rw [S_cps]; omega)); intro _ _; (try simp only [S_cps]); (try dsimp only)))
local macro_rules | `(tactic| walk_at "binaryOp Add str str") => `(tactic| ((with_reducible refine op_add ?hb ?hy ?_); (case hb => first | omega | (simp only [cutTo, cutFrom, List.length_take, List.length_drop]; omega)); (case hy => first | decide | (rw [S_cps]; first | omega | (simp only [List.length_cons, List.length_nil]; omega))); intro _ _; (try simp only [S_cps]); (try dsimp only)))
local macro_rules | `(tactic| walk_at "call ref") => `(tactic| ((with_reducible show wpAny _ _ (call (Value.ref 24) _) _ _ _); k_dflt (refine' Ctr.use (run_ctr _ _ _ _ _ _ _ _ _ ?hx ?hp) ?k1 ?k2 ?k3 ?k4 ?k5 ?k6 ?k7 ?k8 ?_; (case k1 => k_asm); (case k2 => k_asm); (case k3 => k_asm); (case k4 => k_asm); (case k5 => k_asm); (case k6 => rfl)); (case hx => omega); (case hp => first | exact Nat.zero_le _ | omega); (case k7 => first | exact room (by assumption) (by decide) | decide | omega); (case k8 => first | exact roomU (by assumption) (by decide) | decide | omega); (intro v9 nx9 h9 tk9 hP9 hO9 F9 N9); (obtain ⟨t9, hv9, hn9, hb9⟩ := hP9); (subst hv9); (subst hn9); (try dsimp only); (try simp only [List.nil_append, List.cons_append] at N9)))
theorem BodyPost.one {g : Heap} {L : Addr} {news : List (Addr × Obj)} {s : Shared} {Post : Value → List (Addr × Obj) → Prop} {v : Value} {h' : Heap} {m' : Str → Option Value} {tk' : Nat} {p : Addr × Obj}
    (F : Fr g L h' m') (N : News g L h' (p :: news)) (ho : ∀ q ∈ news, q.1 < p.1) (hp : Post v [p]) :
    BodyPost g L news s Post (.ret v) { s with heap := h', toks := tk' } := .intro [p] F N (fun _ h => h) (fun q hq r hr => by
      rw [List.mem_singleton.mp hq]; exact ho r hr) hp
abbrev tupO (vs : Array Value) : Obj := { cls := .type "tuple", data := .seq vs }
noncomputable def TupOr (l : List Nat) (r : Option (List Nat × Str)) (v : Value) (nx : List (Addr × Obj)) : Prop :=
  (r = none ∧ v = .none ∧ nx = []) ∨ ∃ a y d t1 t2 t3, r = some (a, y) ∧ v = .ref d ∧ nx = [(d, tupO #[.str (S l) t1, .str (S a) t2, .str y t3])]
theorem cv_ctr (w : World) (news : List (Addr × Obj)) (l : List Nat) (tx : Tok) (hx : l.length ≤ 1000) :
    Ctr w 2 59 news [.str (S l) tx] fun v nx => v = .bool (cvF l) ∧ nx = [] := by
  w_top off
  have hfill : PySem.Challenge.rw_iv0075_01 = PySem.Challenge.rw_iv0075_01 ∧ frag.heap_1 = frag.heap_1 := by
    k_fill
    exact ⟨rfl, rfl⟩
  refine' Ctr.intro [(Str.ofString "s", .str (S l) tx)] ?k1 ?k2 ?k3 ?k4 ?k5 ?k6 ?k7 ?k8 ?_
  case k1 => k_is
  case k2 => k_is
  case k3 => rfl
  case k4 => exact locs rfl
  case k5 => rfl
  case k6 => rfl
  case k7 => rfl
  case k8 => decide
  intro mean mg mb dp un gd outer A₀ base g L s B F X N T hdp hun
  try k_fold
  k_steps
  all_goals ((try dsimp only); (rename Fr _ _ _ _ => F9); (rename News _ _ _ _ => N9); refine BodyPost.plain F9 N9 (by intro p hp; first | exact hp | exact .tail _ hp) ⟨congrArg Value.bool ?_, rfl⟩)
  all_goals (have hr : runF l 0 (Str.ofString "aeiouy").cps.toList false = rP l := rfl)
  all_goals (clear F9 N9)
  all_goals (simp only [hr] at *)
  · have h1 : 0 < rP l := by omega
    have h2 : rP l + 2 = l.length := by omega
    have e : ((rP l : Int) + 1).toNat = rP l + 1 := by omega
    unfold cvF
    rw [e, decide_eq_true h1, decide_eq_true h2, Bool.true_and, Bool.true_and]
  · have h1 : 0 < rP l := by omega
    have h2 : ¬ rP l + 2 = l.length := by omega
    have h3 : ((rP l : Int) + 2 == (l.length : Int)) = false := by rw [beq_eq_false_iff_ne]; omega
    unfold cvF
    rw [h3, decide_eq_false h2, Bool.false_and, Bool.and_false]
  · have h1 : ¬ 0 < rP l := by omega
    have h3 : ¬ ((0 : Int) < (rP l : Int)) := by omega
    unfold cvF
    rw [decide_eq_false h1, decide_eq_false h3, Bool.false_and]

noncomputable def abiF (l : List Nat) : Bool := l == (Str.ofString "at").cps.toList || (l == (Str.ofString "bl").cps.toList || l == (Str.ofString "iz").cps.toList)
noncomputable def s1bF (l : List Nat) : Bool := decide (l.length = 2) && (l.getD 0 0 == l.getD 1 0 && !VZ.contains (l.getD 0 0))
noncomputable def edF (l : List Nat) : Option (List Nat × Str) := if (Str.ofString "ed").cps.toList.isSuffixOf l then some (cutTo l (-2), Str.ofString "ed") else if (Str.ofString "ing").cps.toList.isSuffixOf l then some (cutTo l (-3), Str.ofString "ing") else none
noncomputable def s5F (l : List Nat) : Option (List Nat) := if 1 < l.length ∧ (Str.ofString "e").cps.toList.isSuffixOf l = true then some (cutTo l (-1)) else none
noncomputable def s42F (l : List Nat) : Option (List Nat) := if 4 < l.length ∧ ((Str.ofString "sion").cps.toList.isSuffixOf l = true ∨ (Str.ofString "tion").cps.toList.isSuffixOf l = true) then some (cutTo l (-4)) else none
theorem abi_ctr (w : World) (news : List (Addr × Obj)) (l : List Nat) (tx : Tok) (hx : l.length ≤ 1000) :
    Ctr w 1 73 news [.str (S l) tx] fun v nx => v = .bool (abiF l) ∧ nx = [] := by
  w_top off
  have hfill : PySem.Challenge.rw_iv0075_01 = PySem.Challenge.rw_iv0075_01 ∧ frag.heap_1 = frag.heap_1 := by
    k_fill
    exact ⟨rfl, rfl⟩
  refine' Ctr.intro [(Str.ofString "w", .str (S l) tx)] ?k1 ?k2 ?k3 ?k4 ?k5 ?k6 ?k7 ?k8 ?_
  case k1 => k_is
  case k2 => k_is
  case k3 => rfl
  case k4 => exact locs rfl
  case k5 => rfl
  case k6 => rfl
  case k7 => rfl
  case k8 => decide
  intro mean mg mb dp un gd outer A₀ base g L s B F X N T hdp hun
  try k_fold
  k_steps
  all_goals ((try dsimp only); (rename Fr _ _ _ _ => F9); (rename News _ _ _ _ => N9); refine BodyPost.plain F9 N9 (by intro p hp; first | exact hp | exact .tail _ hp) ⟨congrArg Value.bool ?_, rfl⟩)
  all_goals (unfold abiF; simp only [*, Bool.true_or, Bool.false_or])

theorem s1b_ctr (w : World) (news : List (Addr × Obj)) (l : List Nat) (tx : Tok) (hx : l.length ≤ 1000) :
    Ctr w 1 80 news [.str (S l) tx] fun v nx => v = .bool (s1bF l) ∧ nx = [] := by
  w_top off
  have hfill : PySem.Challenge.rw_iv0075_01 = PySem.Challenge.rw_iv0075_01 ∧ frag.heap_1 = frag.heap_1 := by
    k_fill
    exact ⟨rfl, rfl⟩
  refine' Ctr.intro [(Str.ofString "w", .str (S l) tx)] ?k1 ?k2 ?k3 ?k4 ?k5 ?k6 ?k7 ?k8 ?_
  case k1 => k_is
  case k2 => k_is
  case k3 => rfl
  case k4 => exact locs rfl
  case k5 => rfl
  case k6 => rfl
  case k7 => rfl
  case k8 => decide
  intro mean mg mb dp un gd outer A₀ base g L s B F X N T hdp hun
  try k_fold
  k_steps
  all_goals ((try dsimp only); (rename Fr _ _ _ _ => F9); (rename News _ _ _ _ => N9); refine BodyPost.plain F9 N9 (by intro p hp; first | exact hp | exact .tail _ hp) ⟨congrArg Value.bool ?_, rfl⟩)
  · have h1 : l.length = 2 := by omega
    rename (_ == _) = true => h2
    have h3 : (l.getD 0 0 == l.getD 1 0) = true := by simpa [S] using h2
    unfold s1bF
    rw [decide_eq_true h1, h3]; rfl
  · have h1 : l.length = 2 := by omega
    rename (_ == _) = false => h2
    have h3 : (l.getD 0 0 == l.getD 1 0) = false := by simpa [S] using h2
    unfold s1bF
    rw [h2, h3]; simp
  · have h1 : ¬ l.length = 2 := by omega
    have h3 : ((l.length : Int) == 2) = false := by rw [beq_eq_false_iff_ne]; omega
    unfold s1bF
    rw [h3]; simp [h1]

theorem ed_ctr (w : World) (news : List (Addr × Obj)) (l : List Nat) (tx : Tok) (hx : l.length ≤ 1000) :
    Ctr w 1 66 news [.str (S l) tx] fun v nx => TupOr l (edF l) v nx := by
  w_top off
  have hfill : PySem.Challenge.rw_iv0075_01 = PySem.Challenge.rw_iv0075_01 ∧ frag.heap_1 = frag.heap_1 := by
    k_fill
    exact ⟨rfl, rfl⟩
  refine' Ctr.intro [(Str.ofString "w", .str (S l) tx)] ?k1 ?k2 ?k3 ?k4 ?k5 ?k6 ?k7 ?k8 ?_
  case k1 => k_is
  case k2 => k_is
  case k3 => rfl
  case k4 => exact locs rfl
  case k5 => rfl
  case k6 => rfl
  case k7 => rfl
  case k8 => decide
  intro mean mg mb dp un gd outer A₀ base g L s B F X N T hdp hun
  try k_fold
  k_steps
  · (rename Fr _ _ _ _ => F9); (rename News _ _ _ _ => N9); (rename ∀ _, _ => l9)
    rename List.isSuffixOf _ _ = true => h1
    exact BodyPost.one F9 N9 l9 (.inr ⟨_, _, _, _, _, _, by unfold edF; rw [if_pos h1], rfl, rfl⟩)
  · (rename Fr _ _ _ _ => F9); (rename News _ _ _ _ => N9); (rename ∀ _, _ => l9)
    rename List.isSuffixOf _ _ = true => h2
    rename List.isSuffixOf _ _ = false => h1
    exact BodyPost.one F9 N9 l9 (.inr ⟨_, _, _, _, _, _, by unfold edF; rw [if_neg (by rw [h1]; decide), if_pos h2], rfl, rfl⟩)
  · rename List.isSuffixOf _ _ = false => h2
    rename List.isSuffixOf (Str.cps (Str.ofString "ed")).toList _ = false => h1
    exact BodyPost.plain F N (fun _ h => h) (.inl ⟨by unfold edF; rw [if_neg (by rw [h1]; decide), if_neg (by rw [h2]; decide)], rfl, rfl⟩)

theorem s5_ctr (w : World) (news : List (Addr × Obj)) (l : List Nat) (tx : Tok) (hx : l.length ≤ 1000) :
    Ctr w 1 122 news [.str (S l) tx] fun v nx => (s5F l = none ∧ v = .none ∧ nx = []) ∨ ∃ a d t1 t2, s5F l = some a ∧ v = .ref d ∧ nx = [(d, tupO #[.str (S l) t1, .str (S a) t2])] := by
  w_top off
  have hfill : PySem.Challenge.rw_iv0075_01 = PySem.Challenge.rw_iv0075_01 ∧ frag.heap_1 = frag.heap_1 := by
    k_fill
    exact ⟨rfl, rfl⟩
  refine' Ctr.intro [(Str.ofString "w", .str (S l) tx)] ?k1 ?k2 ?k3 ?k4 ?k5 ?k6 ?k7 ?k8 ?_
  case k1 => k_is
  case k2 => k_is
  case k3 => rfl
  case k4 => exact locs rfl
  case k5 => rfl
  case k6 => rfl
  case k7 => rfl
  case k8 => decide
  intro mean mg mb dp un gd outer A₀ base g L s B F X N T hdp hun
  try k_fold
  k_steps
  · (rename Fr _ _ _ _ => F9); (rename News _ _ _ _ => N9); (rename ∀ _, _ => l9)
    rename List.isSuffixOf _ _ = true => h1
    exact BodyPost.one F9 N9 l9 (.inr ⟨_, _, _, _, by unfold s5F; rw [if_pos ⟨by omega, h1⟩], rfl, rfl⟩)
  · rename List.isSuffixOf _ _ = false => h1
    exact BodyPost.plain F N (fun _ h => h) (.inl ⟨by unfold s5F; rw [if_neg (by rw [h1]; simp)], rfl, rfl⟩)
  · exact BodyPost.plain F N (fun _ h => h) (.inl ⟨by unfold s5F; rw [if_neg (by omega)], rfl, rfl⟩)

theorem s42_ctr (w : World) (news : List (Addr × Obj)) (l : List Nat) (tx : Tok) (hx : l.length ≤ 1000) :
    Ctr w 1 115 news [.str (S l) tx] fun v nx => (s42F l = none ∧ v = .none ∧ nx = []) ∨ ∃ a d t1 t2 t3 t4, s42F l = some a ∧ v = .ref d ∧ nx = [(d, tupO #[.str (S l) t1, .str (S a) t2, .str (S [l.getD (l.length - 4) 0]) t3, .str (Str.ofString "ion") t4])] := by
  w_top off
  have hfill : PySem.Challenge.rw_iv0075_01 = PySem.Challenge.rw_iv0075_01 ∧ frag.heap_1 = frag.heap_1 := by
    k_fill
    exact ⟨rfl, rfl⟩
  refine' Ctr.intro [(Str.ofString "w", .str (S l) tx)] ?k1 ?k2 ?k3 ?k4 ?k5 ?k6 ?k7 ?k8 ?_
  case k1 => k_is
  case k2 => k_is
  case k3 => rfl
  case k4 => exact locs rfl
  case k5 => rfl
  case k6 => rfl
  case k7 => rfl
  case k8 => decide
  intro mean mg mb dp un gd outer A₀ base g L s B F X N T hdp hun
  try k_fold
  k_steps
  · (rename Fr _ _ _ _ => F9); (rename News _ _ _ _ => N9); (rename ∀ _, _ => l9)
    rename List.isSuffixOf _ _ = true => h1
    exact BodyPost.one F9 N9 l9 (.inr ⟨_, _, _, _, _, _, by unfold s42F; rw [if_pos ⟨by omega, .inl h1⟩], rfl, rfl⟩)
  · (rename Fr _ _ _ _ => F9); (rename News _ _ _ _ => N9); (rename ∀ _, _ => l9)
    rename List.isSuffixOf _ _ = true => h1
    exact BodyPost.one F9 N9 l9 (.inr ⟨_, _, _, _, _, _, by unfold s42F; rw [if_pos ⟨by omega, .inr h1⟩], rfl, rfl⟩)
  · rename List.isSuffixOf _ _ = false => h2
    rename List.isSuffixOf (Str.cps (Str.ofString "sion")).toList _ = false => h1
    exact BodyPost.plain F N (fun _ h => h) (.inl ⟨by unfold s42F; rw [if_neg (by rw [h1, h2]; simp)], rfl, rfl⟩)
  · exact BodyPost.plain F N (fun _ h => h) (.inl ⟨by unfold s42F; rw [if_neg (by omega)], rfl, rfl⟩)
end
section
local macro_rules | `(tactic| walk_at "call builtin:len") => `(tactic| ((with_reducible refine op_len ?hb ?_); (case hb => first | omega | (simp only [List.length_take, List.length_append, List.length_cons, List.length_nil, cutTo, cutFrom, List.length_drop] at *; omega)); intro _ _; (try dsimp only)))
local macro_rules | `(tactic| walk_at "subscriptTail Name Name str int") => `(tactic| ((with_reducible refine op_item _ ?hi ?hb ?_); (case hi => omega); (case hb => omega); intro _ _; (try dsimp only)))
local macro_rules | `(tactic| walk_at "subscriptTail Name BinOp str int") => `(tactic| ((with_reducible refine op_itemZ ?h0 ?hi ?hb ?_); (case h0 => first | omega | (simp only [decide_eq_true_eq, beq_iff_eq] at *; omega)); (case hi => first | omega | (simp only [decide_eq_true_eq, beq_iff_eq] at *; omega)); (case hb => omega); intro _ _; (try dsimp only)))
local macro_rules | `(tactic| walk_at "subscriptTail Name Constant str int") => `(tactic| ((with_reducible refine op_itemZ ?h0 ?hi ?hb ?_); (case h0 => first | decide | omega); (case hi => first | omega | (simp only [decide_eq_true_eq, beq_iff_eq] at *; omega)); (case hb => omega); intro _ _; (try dsimp only)))
local macro_rules | `(tactic| walk_at "compareOp In str str") => `(tactic| (with_reducible refine op_in ?_))
local macro_rules | `(tactic| walk_at "compareOp NotIn str str") => `(tactic| (with_reducible refine op_notin ?_))
local macro_rules | `(tactic| walk_at "compareOp Eq str str") => `(tactic| (with_reducible refine op_eq ?_))
local macro_rules | `(tactic| walk_at "call builtin:str.endswith") => `(tactic| ((with_reducible refine SC.endswith ?_); (try rw [endswith_S])))
local macro_rules | `(tactic| walk_at "subscriptTail Name Slice str ref") => `(tactic| ((with_reducible show wpAny _ _ (subscriptTail _ (Expr.Slice none (some _) none _) _ _) _ _ _); (with_reducible rename Fr _ _ _ _ => F'); (with_reducible rename News _ _ _ _ => N'); (refine op_to (s := ⟨_, _, _, _, _⟩) F' N' ?hb ?_); (case hb => omega); intro _ _ _ _ _; (try dsimp only)))
local macro_rules | `(tactic| walk_at "subscriptTail Name Slice str ref") => `(tactic| ((with_reducible show wpAny _ _ (subscriptTail _ (Expr.Slice (some _) none none _) _ _) _ _ _); (with_reducible rename Fr _ _ _ _ => F'); (with_reducible rename News _ _ _ _ => N'); (refine op_from (s := ⟨_, _, _, _, _⟩) F' N' ?hb ?_); (case hb => omega); intro _ _ _ _ _; (try dsimp only)))
local macro_rules | `(tactic| walk_at "subscriptTail Name UnaryOp str int") => `(tactic| ((with_reducible refine op_itemN ?h0 ?hi ?hb ?_); (case h0 => decide); (case hi => first | omega | (simp only [decide_eq_true_eq, beq_iff_eq] at *; omega)); (case hb => omega); intro _ _; (try dsimp only)))
local macro_rules | `(tactic| walk_at "binaryOp Add str str") => `(tactic| ((with_reducible refine op_add ?hb ?hy ?_); (case hb => omega); (case hy => first | decide | (rw [S_cps]; omega)); intro _ _; (try simp only [S_cps]); (try dsimp only)))
local macro_rules | `(tactic| walk_at "inplaceOp Add str str") => `(tactic| ((with_reducible refine op_iadd ?hb ?hy ?_); (case hb => omega); (case hy => first | decide | (rw [S_cps]; omega)); intro _ _; (try simp only [S_cps]); (try dsimp only)))
local macro_rules | `(tactic| walk_at "compareOp NotEq str str") => `(tactic| (with_reducible refine op_ne ?_))
local macro_rules | `(tactic| walk_at "subscriptTail Name UnaryOp str int") => `(tactic| ((with_reducible refine op_itemN ?h0 ?hi ?hb ?_); (case h0 => decide); (case hi => exact pos_of_ne (by assumption)); (case hb => omega); intro _ _; (try dsimp only)))
local macro_rules | `(tactic| walk_at "subscriptTail Name Name str int") => `(tactic| ((with_reducible refine op_itemZ ?h0 ?hi ?hb ?_); (case h0 => omega); (case hi => omega); (case hb => omega); intro _ _; (try dsimp only)))
local macro_rules | `(tactic| walk_at "subscriptTail Name Name str int") => `(tactic| ((with_reducible refine op_item _ ?hi ?hb ?_); (case hi => omega); (case hb => omega); intro _ _; (try dsimp only)))
local macro_rules | `(tactic| walk_at "binaryOp Add str str") => `(tactic| ((with_reducible refine op_add_l ?hb ?hy ?_); (case hb => first | omega | (simp only [cutTo, cutFrom, List.length_take, List.length_drop]; omega)); (case hy => first | decide | (rw [S_cps]; omega)); intro _ _; (try simp only [S_cps]); (try dsimp only)))
local macro_rules | `(tactic| walk_at "binaryOp Add str str") => `(tactic| ((with_reducible refine op_add ?hb ?hy ?_); (case hb => first | omega | (simp only [cutTo, cutFrom, List.length_take, List.length_drop]; omega)); (case hy => first | decide | (rw [S_cps]; first | omega | (simp only [List.length_cons, List.length_nil]; omega))); intro _ _; (try simp only [S_cps]); (try dsimp only)))
noncomputable def stepL (l : List Nat) (r : Option (List Nat × Str)) (y : Str) : Option (List Nat × Str) :=
  if y.cps.toList.length < l.length ∧ y.cps.toList.isSuffixOf l = true ∧ (∀ q, r = some q → q.2.cps.toList.length < y.cps.toList.length) then some (cutTo l ((l.length : Int) - (y.cps.toList.length : Int)), y) else r
noncomputable def longF (l : List Nat) (ys : List Str) : Option (List Nat × Str) := ys.foldl (stepL l) none
theorem long_mem (l : List Nat) (ys : List Str) : ∀ (zs : List Str) (r : Option (List Nat × Str)), (∀ q, r = some q → q.2 ∈ ys) → (∀ z ∈ zs, z ∈ ys) → ∀ q, zs.foldl (stepL l) r = some q → q.2 ∈ ys := by
  intro zs
  induction zs with
  | nil => intro r h _ q hq; exact h q hq
  | cons z zs ih =>
    intro r h hz q hq
    rw [List.foldl_cons] at hq
    refine ih _ ?_ (fun w hw => hz w (.tail _ hw)) q hq
    intro p hp
    unfold stepL at hp
    split at hp
    · cases hp; exact hz z (.head _)
    · exact h p hp
theorem of_allLt {d : Addr} : ∀ {l : List (Addr × Obj)}, AllLt d l → ∀ p ∈ l, @LT.lt Nat _ p.1 d
  | [], _, _, h => nomatch h
  | q :: _, h, p, hp => by
    rcases List.mem_cons.mp hp with rfl | hp
    · exact h.1
    · exact of_allLt h.2 p hp
theorem long_turn {l : List Nat} {r : Option (List Nat × Str)} {news rest : List (Addr × Obj)} {g h' : Heap} {L I : Addr} {oI : Obj} {s₁ : Shared} {Q : Flow → Shared → Prop} {tk : Nat} {m₀ m' : Str → Option Value} {q : Addr × Obj}
    (F : Fr g L h' m') (N : News g L h' (q :: rest)) (hI : (I, oI) ∈ rest) (hn : ∀ p ∈ news, p ∈ rest) (hq : @LT.lt Nat _ I q.1) (hsep : ∀ p ∈ news, p.1 ≠ I) (hlt : ∀ p ∈ news, @LT.lt Nat _ p.1 q.1)
    (h1 : m' (Str.ofString "found") = some (.ref q.1)) (h2 : ∀ z, z ≠ Str.ofString "end" → z ≠ Str.ofString "found" → m' z = m₀ z) (hp : TupOr l r (.ref q.1) [q]) :
    TurnPost g L (fun c : Value × List (Addr × Obj) => c.2 ++ news) (fun c => [(Str.ofString "found", c.1)]) (Str.ofString "end") [] m₀ (fun c => TupOr l r c.1 c.2 ∧ Newer c.2 news) I oI s₁ Q .next { s₁ with heap := h', toks := tk } := by
  refine TurnPost.next (.ref q.1, [q]) F N (.tail _ hI) (fun p hp => ?_) (fun p hp => ?_) (by intro z hz; cases hz with | head => exact h1 | tail _ h => cases h) (fun z a b _ => h2 z a (b _ (.head _))) ⟨hp, ?_⟩
  · rcases List.mem_cons.mp hp with rfl | hp
    · exact .head _
    · exact .tail _ (hn p hp)
  · rcases List.mem_cons.mp hp with rfl | hp
    · exact Nat.ne_of_gt hq
    · exact hsep p hp
  · intro p hp q' hq'
    rw [List.mem_singleton.mp hp]
    exact hlt q' hq'
theorem stepL_no {l e : List Nat} {r : Option (List Nat × Str)} (h : ¬ (e.length < l.length ∧ e.isSuffixOf l = true)) : stepL l r (S e) = r := by
  unfold stepL
  rw [S_cps, if_neg (fun c => h ⟨c.1, c.2.1⟩)]
theorem stepL_old {l e : List Nat} {q : List Nat × Str} (h : ¬ q.2.cps.toList.length < e.length) : stepL l (some q) (S e) = some q := by
  unfold stepL
  rw [S_cps, if_neg (fun c => h (c.2.2 q rfl))]
theorem stepL_yes {l e : List Nat} {r : Option (List Nat × Str)} (h1 : e.length < l.length) (h2 : e.isSuffixOf l = true) (h : ∀ q, r = some q → q.2.cps.toList.length < e.length) : stepL l r (S e) = some (cutTo l ((l.length : Int) - (e.length : Int)), S e) := by
  unfold stepL
  rw [S_cps, if_pos ⟨h1, h2, h⟩]
theorem long_ctr (w : World) (news : List (Addr × Obj)) (l : List Nat) (tx : Tok) (d : Addr) (vs : List Value) (ys : List Str) (n : Nat) (hx : l.length ≤ 1000) (hm : (d, listOf vs.toArray n) ∈ news) (hs : StrsAre vs ys) (hb : ∀ y ∈ ys, y.length ≤ 1000) :
    Ctr w 1 87 news [.str (S l) tx, .ref d] fun v nx => TupOr l (longF l ys) v nx := by
  w_top off
  have hfill : PySem.Challenge.rw_iv0075_01 = PySem.Challenge.rw_iv0075_01 ∧ frag.heap_1 = frag.heap_1 := by
    k_fill
    exact ⟨rfl, rfl⟩
  refine' Ctr.intro [(Str.ofString "w", .str (S l) tx), (Str.ofString "ends", .ref d)] ?k1 ?k2 ?k3 ?k4 ?k5 ?k6 ?k7 ?k8 ?_
  case k1 => k_is
  case k2 => k_is
  case k3 => rfl
  case k4 => exact locs rfl
  case k5 => rfl
  case k6 => rfl
  case k7 => rfl
  case k8 => decide
  intro mean mg mb dp un gd outer A₀ base g L s B F X N T hdp hun
  try k_fold
  k_steps
  (rename Fr _ _ _ _ => F9); (rename News _ _ _ _ => N9)
  refine For_invVF F9 rfl rfl ?_
  k_steps
  refine loopS (σ := Value × List (Addr × Obj)) (fun c => c.2 ++ news) (fun c => [(Str.ofString "found", c.1)]) [] (fun i c => TupOr l ((ys.take i).foldl (stepL l) none) c.1 c.2 ∧ Newer c.2 news) (.none, []) rfl (fun c => .inr (List.mem_append_right _ hm)) F9 N9 (by intro z hz; cases hz with | head => rfl | tail _ h => cases h) ⟨.inl ⟨rfl, rfl, rfl⟩, .nil⟩ ?_ ?_
  · rintro i v ⟨fv, nx⟩ u h tk I oI hv hP hsep F1 N1
    dsimp only at hP hsep F1 N1
    obtain ⟨hP, hO⟩ := hP
    obtain ⟨y, t, rfl, hy⟩ := hs.item i v hv
    have hyb := hb y (List.mem_of_getElem? hy)
    obtain ⟨e, rfl⟩ : ∃ e, y = S e := ⟨_, S_of y⟩
    rw [len_S] at hyb
    have hst : (ys.take (i + 1)).foldl (stepL l) none = stepL l ((ys.take i).foldl (stepL l) none) (S e) := by
      rw [List.take_add_one, hy]; simp
    rcases hP with ⟨hr, rfl, rfl⟩ | ⟨a, y0, D, t1, t2, t3, hr, rfl, rfl⟩
    · simp only [List.nil_append] at N1 hsep
      k_steps
      · (rename Fr _ _ _ _ => F9); (rename News _ _ _ _ => N9); (rename _ ∧ AllLt _ _ => l9)
        rename List.isSuffixOf _ _ = true => h2
        rw [S_cps] at h2
        exact long_turn F9 N9 (.head _) (fun p hp => .tail _ hp) l9.1 hsep (of_allLt l9.2) rfl (by
          intro z h1 h3
          simp only [kstB, if_neg h1, if_neg h3]
          try rfl) (.inr ⟨_, _, _, _, _, _, by rw [hst, hr]; exact stepL_yes (by omega) h2 (fun q hq => by cases hq), rfl, rfl⟩)
      · rename List.isSuffixOf _ _ = false => h2
        rw [S_cps] at h2
        exact TurnPost.next (.none, []) F1 N1 (.head _) (fun p hp => .tail _ hp) hsep (by intro z hz; cases hz with | head => rfl | tail _ h => cases h) (by
          intro z h1 h2 _
          have h3 : z ≠ Str.ofString "found" := h2 _ (.head _)
          simp only [kstB, if_neg h1, if_neg h3]
          try rfl) ⟨.inl ⟨by rw [hst, hr]; exact stepL_no (by rw [h2]; simp), rfl, rfl⟩, .nil⟩
      · exact TurnPost.next (.none, []) F1 N1 (.head _) (fun p hp => .tail _ hp) hsep (by intro z hz; cases hz with | head => rfl | tail _ h => cases h) (by
          intro z h1 h2 _
          have h3 : z ≠ Str.ofString "found" := h2 _ (.head _)
          simp only [kstB, if_neg h1, if_neg h3]
          try rfl) ⟨.inl ⟨by rw [hst, hr]; exact stepL_no (by omega), rfl, rfl⟩, .nil⟩
    · simp only [List.cons_append, List.nil_append] at N1 hsep
      have hy0 : y0.length ≤ 1000 := hb _ (long_mem l ys _ _ (fun q hq => by cases hq) (fun z hz => List.mem_of_mem_take hz) _ hr)
      obtain ⟨e0, rfl⟩ : ∃ e, y0 = S e := ⟨_, S_of y0⟩
      rw [len_S] at hy0
      k_steps
      · (rename Fr _ _ _ _ => F9); (rename News _ _ _ _ => N9); (rename _ ∧ _ ∧ AllLt _ _ => l9)
        rename List.isSuffixOf _ _ = true => h2
        rw [S_cps] at h2
        exact long_turn F9 N9 (.head _) (fun p hp => .tail _ (.tail _ hp)) l9.1 (fun p hp => hsep p (.tail _ hp)) (of_allLt l9.2.2) rfl (by
          intro z h1 h3
          simp only [kstB, if_neg h1, if_neg h3]
          try rfl) (.inr ⟨_, _, _, _, _, _, by rw [hst, hr]; exact stepL_yes (by omega) h2 (fun q hq => by cases hq; rw [S_cps]; omega), rfl, rfl⟩)
      · exact TurnPost.next (.ref D, [_]) F1 N1 (.head _) (fun p hp => .tail _ hp) hsep (by intro z hz; cases hz with | head => rfl | tail _ h => cases h) (by
          intro z h1 h2 _
          have h3 : z ≠ Str.ofString "found" := h2 _ (.head _)
          simp only [kstB, if_neg h1, if_neg h3]
          try rfl) ⟨.inr ⟨_, _, _, _, _, _, by rw [hst, hr]; exact stepL_old (by rw [S_cps]; omega), rfl, rfl⟩, hO⟩
      · rename List.isSuffixOf _ _ = false => h2
        rw [S_cps] at h2
        exact TurnPost.next (.ref D, [_]) F1 N1 (.head _) (fun p hp => .tail _ hp) hsep (by intro z hz; cases hz with | head => rfl | tail _ h => cases h) (by
          intro z h1 h2 _
          have h3 : z ≠ Str.ofString "found" := h2 _ (.head _)
          simp only [kstB, if_neg h1, if_neg h3]
          try rfl) ⟨.inr ⟨_, _, _, _, _, _, by rw [hst, hr]; exact stepL_no (by rw [h2]; simp), rfl, rfl⟩, hO⟩
      · exact TurnPost.next (.ref D, [_]) F1 N1 (.head _) (fun p hp => .tail _ hp) hsep (by intro z hz; cases hz with | head => rfl | tail _ h => cases h) (by
          intro z h1 h2 _
          have h3 : z ≠ Str.ofString "found" := h2 _ (.head _)
          simp only [kstB, if_neg h1, if_neg h3]
          try rfl) ⟨.inr ⟨_, _, _, _, _, _, by rw [hst, hr]; exact stepL_no (by omega), rfl, rfl⟩, hO⟩
  · rintro ⟨fv, nx⟩ u h tk ⟨hP, hO⟩ F1 N1
    dsimp only at hP hO F1 N1
    rw [hs.len_eq, List.take_length] at hP
    k_steps
    exact BodyPost.intro nx F1 N1 (fun _ h => h) hO hP
end
section
local macro_rules | `(tactic| walk_at "call builtin:len") => `(tactic| ((with_reducible refine op_len ?hb ?_); (case hb => first | omega | (simp only [List.length_take, List.length_append, List.length_cons, List.length_nil, cutTo, cutFrom, List.length_drop] at *; omega)); intro _ _; (try dsimp only)))
local macro_rules | `(tactic| walk_at "subscriptTail Name Name str int") => `(tactic| ((with_reducible refine op_item _ ?hi ?hb ?_); (case hi => omega); (case hb => omega); intro _ _; (try dsimp only)))
local macro_rules | `(tactic| walk_at "subscriptTail Name BinOp str int") => `(tactic| ((with_reducible refine op_itemZ ?h0 ?hi ?hb ?_); (case h0 => first | omega | (simp only [decide_eq_true_eq, beq_iff_eq] at *; omega)); (case hi => first | omega | (simp only [decide_eq_true_eq, beq_iff_eq] at *; omega)); (case hb => omega); intro _ _; (try dsimp only)))
local macro_rules | `(tactic| walk_at "subscriptTail Name Constant str int") => `(tactic| ((with_reducible refine op_itemZ ?h0 ?hi ?hb ?_); (case h0 => first | decide | omega); (case hi => first | omega | (simp only [decide_eq_true_eq, beq_iff_eq] at *; omega)); (case hb => omega); intro _ _; (try dsimp only)))
local macro_rules | `(tactic| walk_at "compareOp In str str") => `(tactic| (with_reducible refine op_in ?_))
local macro_rules | `(tactic| walk_at "compareOp NotIn str str") => `(tactic| (with_reducible refine op_notin ?_))
local macro_rules | `(tactic| walk_at "compareOp Eq str str") => `(tactic| (with_reducible refine op_eq ?_))
local macro_rules | `(tactic| walk_at "call builtin:str.endswith") => `(tactic| ((with_reducible refine SC.endswith ?_); (try rw [endswith_S])))
local macro_rules | `(tactic| walk_at "subscriptTail Name Slice str ref") => `(tactic| ((with_reducible show wpAny _ _ (subscriptTail _ (Expr.Slice none (some _) none _) _ _) _ _ _); (with_reducible rename Fr _ _ _ _ => F'); (with_reducible rename News _ _ _ _ => N'); (refine op_to (s := ⟨_, _, _, _, _⟩) F' N' ?hb ?_); (case hb => omega); intro _ _ _ _ _; (try dsimp only)))
local macro_rules | `(tactic| walk_at "subscriptTail Name Slice str ref") => `(tactic| ((with_reducible show wpAny _ _ (subscriptTail _ (Expr.Slice (some _) none none _) _ _) _ _ _); (with_reducible rename Fr _ _ _ _ => F'); (with_reducible rename News _ _ _ _ => N'); (refine op_from (s := ⟨_, _, _, _, _⟩) F' N' ?hb ?_); (case hb => omega); intro _ _ _ _ _; (try dsimp only)))
local macro_rules | `(tactic| walk_at "subscriptTail Name UnaryOp str int") => `(tactic| ((with_reducible refine op_itemN ?h0 ?hi ?hb ?_); (case h0 => decide); (case hi => first | omega | (simp only [decide_eq_true_eq, beq_iff_eq] at *; omega)); (case hb => omega); intro _ _; (try dsimp only)))
local macro_rules | `(tactic| walk_at "binaryOp Add str str") => `(tactic| ((with_reducible refine op_add ?hb ?hy ?_); (case hb => omega); (case hy => first | decide | (rw [S_cps]; omega)); intro _ _; (try simp only [S_cps]); (try dsimp only)))
local macro_rules | `(tactic| walk_at "inplaceOp Add str str") => `(tactic| ((with_reducible refine op_iadd ?hb ?hy ?_); (case hb => omega); (case hy => first | decide | (rw [S_cps]; omega)); intro _ _; (try simp only [S_cps]); (try dsimp only)))
local macro_rules | `(tactic| walk_at "compareOp NotEq str str") => `(tactic| (with_reducible refine op_ne ?_))
local macro_rules | `(tactic| walk_at "subscriptTail Name UnaryOp str int") => `(tactic| ((with_reducible refine op_itemN ?h0 ?hi ?hb ?_); (case h0 => decide); (case hi => exact pos_of_ne (by assumption)); (case hb => omega); intro _ _; (try dsimp only)))
local macro_rules | `(tactic| walk_at "subscriptTail Name Name str int") => `(tactic| ((with_reducible refine op_itemZ ?h0 ?hi ?hb ?_); (case h0 => omega); (case hi => omega); (case hb => omega); intro _ _; (try dsimp only)))
local macro_rules | `(tactic| walk_at "subscriptTail Name Name str int") => `(tactic| ((with_reducible refine op_item _ ?hi ?hb ?_); (case hi => omega); (case hb => omega); intro _ _; (try dsimp only)))
local macro_rules | `(tactic| walk_at "binaryOp Add str str") => `(tactic| ((with_reducible refine op_add_l ?hb ?hy ?_); (case hb => first | omega | (simp only [cutTo, cutFrom, List.length_take, List.length_drop]; omega)); (case hy => first | decide | (rw [S_cps]; omega)); intro _ _; (try simp only [S_cps]); (try dsimp only)))
local macro_rules | `(tactic| walk_at "binaryOp Add str str") => `(tactic| ((with_reducible refine op_add ?hb ?hy ?_); (case hb => first | omega | (simp only [cutTo, cutFrom, List.length_take, List.length_drop]; omega)); (case hy => first | decide | (rw [S_cps]; first | omega | (simp only [List.length_cons, List.length_nil]; omega))); intro _ _; (try simp only [S_cps]); (try dsimp only)))
noncomputable def ends2 : List Str := [Str.ofString "ational", Str.ofString "tional", Str.ofString "enci", Str.ofString "anci", Str.ofString "izer", Str.ofString "bli", Str.ofString "alli", Str.ofString "entli", Str.ofString "eli", Str.ofString "ousli", Str.ofString "ization", Str.ofString "ation", Str.ofString "ator", Str.ofString "alism", Str.ofString "iveness", Str.ofString "fulness", Str.ofString "ousness", Str.ofString "aliti", Str.ofString "iviti", Str.ofString "biliti", Str.ofString "logi"]
noncomputable def ends3 : List Str := [Str.ofString "icate", Str.ofString "ative", Str.ofString "alize", Str.ofString "iciti", Str.ofString "ical", Str.ofString "ful", Str.ofString "ness"]
noncomputable def ends4 : List Str := [Str.ofString "al", Str.ofString "ance", Str.ofString "ence", Str.ofString "er", Str.ofString "ic", Str.ofString "able", Str.ofString "ible", Str.ofString "ant", Str.ofString "ement", Str.ofString "ment", Str.ofString "ent", Str.ofString "ou", Str.ofString "ism", Str.ofString "ate", Str.ofString "iti", Str.ofString "ous", Str.ofString "ive", Str.ofString "ize"]
local macro_rules | `(tactic| walk_at "call ref") => `(tactic| ((with_reducible show wpAny _ _ (call (Value.ref 87) _) _ _ _); k_dflt (refine' Ctr.use (long_ctr _ _ _ _ _ _ ends2 _ ?hx ?hm ?hs ?hb) ?k1 ?k2 ?k3 ?k4 ?k5 ?k6 ?k7 ?k8 ?_; (case k1 => k_asm); (case k2 => k_asm); (case k3 => k_asm); (case k4 => k_asm); (case k5 => k_asm); (case k6 => rfl); (case hm => exact List.Mem.head _); (case hs => repeat' (first | exact StrsAre.nil | apply StrsAre.cons)); (case hb => decide)); (case hx => omega); (case k7 => first | exact room (by assumption) (by decide) | decide | omega); (case k8 => first | exact roomU (by assumption) (by decide) | decide | omega); (intro v9 nx9 h9 tk9 hP9 hO9 F9 N9); (try dsimp only)))
local macro_rules | `(tactic| walk_at "call ref") => `(tactic| ((with_reducible show wpAny _ _ (call (Value.ref 87) _) _ _ _); k_dflt (refine' Ctr.use (long_ctr _ _ _ _ _ _ ends3 _ ?hx ?hm ?hs ?hb) ?k1 ?k2 ?k3 ?k4 ?k5 ?k6 ?k7 ?k8 ?_; (case k1 => k_asm); (case k2 => k_asm); (case k3 => k_asm); (case k4 => k_asm); (case k5 => k_asm); (case k6 => rfl); (case hm => exact List.Mem.head _); (case hs => repeat' (first | exact StrsAre.nil | apply StrsAre.cons)); (case hb => decide)); (case hx => omega); (case k7 => first | exact room (by assumption) (by decide) | decide | omega); (case k8 => first | exact roomU (by assumption) (by decide) | decide | omega); (intro v9 nx9 h9 tk9 hP9 hO9 F9 N9); (try dsimp only)))
local macro_rules | `(tactic| walk_at "call ref") => `(tactic| ((with_reducible show wpAny _ _ (call (Value.ref 87) _) _ _ _); k_dflt (refine' Ctr.use (long_ctr _ _ _ _ _ _ ends4 _ ?hx ?hm ?hs ?hb) ?k1 ?k2 ?k3 ?k4 ?k5 ?k6 ?k7 ?k8 ?_; (case k1 => k_asm); (case k2 => k_asm); (case k3 => k_asm); (case k4 => k_asm); (case k5 => k_asm); (case k6 => rfl); (case hm => exact List.Mem.head _); (case hs => repeat' (first | exact StrsAre.nil | apply StrsAre.cons)); (case hb => decide)); (case hx => omega); (case k7 => first | exact room (by assumption) (by decide) | decide | omega); (case k8 => first | exact roomU (by assumption) (by decide) | decide | omega); (intro v9 nx9 h9 tk9 hP9 hO9 F9 N9); (try dsimp only)))
theorem step2_ctr (w : World) (news : List (Addr × Obj)) (l : List Nat) (tx : Tok) (hx : l.length ≤ 1000) :
    Ctr w 2 94 news [.str (S l) tx] fun v nx => TupOr l (longF l ends2) v nx := by
  w_top off
  have hfill : PySem.Challenge.rw_iv0075_01 = PySem.Challenge.rw_iv0075_01 ∧ frag.heap_1 = frag.heap_1 := by
    k_fill
    exact ⟨rfl, rfl⟩
  refine' Ctr.intro [(Str.ofString "w", .str (S l) tx)] ?k1 ?k2 ?k3 ?k4 ?k5 ?k6 ?k7 ?k8 ?_
  case k1 => k_is
  case k2 => k_is
  case k3 => rfl
  case k4 => exact locs rfl
  case k5 => rfl
  case k6 => rfl
  case k7 => rfl
  case k8 => decide
  intro mean mg mb dp un gd outer A₀ base g L s B F X N T hdp hun
  try k_fold
  k_steps
  (rename Fr _ _ _ _ => F9); (rename News _ _ _ _ => N9); (rename Newer _ _ => O9); (rename TupOr _ _ _ _ => P9)
  exact BodyPost.intro _ F9 N9 (fun p hp => by
    rcases List.mem_append.mp hp with h | h
    · exact List.mem_append.mpr (.inl h)
    · exact List.mem_append.mpr (.inr (.tail _ h))) (fun p hp q hq => O9 p hp q (.tail _ hq)) P9

theorem step3_ctr (w : World) (news : List (Addr × Obj)) (l : List Nat) (tx : Tok) (hx : l.length ≤ 1000) :
    Ctr w 2 101 news [.str (S l) tx] fun v nx => TupOr l (longF l ends3) v nx := by
  w_top off
  have hfill : PySem.Challenge.rw_iv0075_01 = PySem.Challenge.rw_iv0075_01 ∧ frag.heap_1 = frag.heap_1 := by
    k_fill
    exact ⟨rfl, rfl⟩
  refine' Ctr.intro [(Str.ofString "w", .str (S l) tx)] ?k1 ?k2 ?k3 ?k4 ?k5 ?k6 ?k7 ?k8 ?_
  case k1 => k_is
  case k2 => k_is
  case k3 => rfl
  case k4 => exact locs rfl
  case k5 => rfl
  case k6 => rfl
  case k7 => rfl
  case k8 => decide
  intro mean mg mb dp un gd outer A₀ base g L s B F X N T hdp hun
  try k_fold
  k_steps
  (rename Fr _ _ _ _ => F9); (rename News _ _ _ _ => N9); (rename Newer _ _ => O9); (rename TupOr _ _ _ _ => P9)
  exact BodyPost.intro _ F9 N9 (fun p hp => by
    rcases List.mem_append.mp hp with h | h
    · exact List.mem_append.mpr (.inl h)
    · exact List.mem_append.mpr (.inr (.tail _ h))) (fun p hp q hq => O9 p hp q (.tail _ hq)) P9

theorem step4_ctr (w : World) (news : List (Addr × Obj)) (l : List Nat) (tx : Tok) (hx : l.length ≤ 1000) :
    Ctr w 2 108 news [.str (S l) tx] fun v nx => TupOr l (longF l ends4) v nx := by
  w_top off
  have hfill : PySem.Challenge.rw_iv0075_01 = PySem.Challenge.rw_iv0075_01 ∧ frag.heap_1 = frag.heap_1 := by
    k_fill
    exact ⟨rfl, rfl⟩
  refine' Ctr.intro [(Str.ofString "w", .str (S l) tx)] ?k1 ?k2 ?k3 ?k4 ?k5 ?k6 ?k7 ?k8 ?_
  case k1 => k_is
  case k2 => k_is
  case k3 => rfl
  case k4 => exact locs rfl
  case k5 => rfl
  case k6 => rfl
  case k7 => rfl
  case k8 => decide
  intro mean mg mb dp un gd outer A₀ base g L s B F X N T hdp hun
  try k_fold
  k_steps
  (rename Fr _ _ _ _ => F9); (rename News _ _ _ _ => N9); (rename Newer _ _ => O9); (rename TupOr _ _ _ _ => P9)
  exact BodyPost.intro _ F9 N9 (fun p hp => by
    rcases List.mem_append.mp hp with h | h
    · exact List.mem_append.mpr (.inl h)
    · exact List.mem_append.mpr (.inr (.tail _ h))) (fun p hp q hq => O9 p hp q (.tail _ hq)) P9
end
section
theorem Ctr.introC {w : World} {d : Nat} {f : Addr} {news : List (Addr × Obj)} {vs : List Value} {Post : Value → List (Addr × Obj) → Prop} {name qual : Str} {params : Arguments} {body : List Stmt} {scope : Scope} {dV kV doc pm cdv ct oc : Value} {an od : Option Addr} {osl : Array (Option Value)}
    (binds : List (Str × Value))
    (ho : (frag.heap_1 w.params).lookup f = some ⟨oc, od, .func (fnOf name qual params body scope dV kV doc pm an cdv ct), osl⟩) (hcd : codeIn (frag.heap_1 w.params) cdv qual = true)
    (hbind : bindArgs (fnOf name qual params body scope dV kV doc pm an cdv ct) ⟨vs, []⟩ = pure binds)
    (hkind : (binds.all fun y => scope.names.lookup y.1 == some .local || scope.names.lookup y.1 == some .cell) = true) (hnd : ((cellsFrom 0 scope.names []).map (·.1)).Nodup)
    (hco : scope.isCoroutine = false) (hgen : scope.isGenerator = false) (hk : scope.kind = .function)
    (h : ∀ (mean : ExcName → Option Value) (mg mb : Str → Option Value) (dp un : Nat) (gd : Option (List Code)) (outer : List Env) (A₀ : Around) (base g : Heap) (L : Addr) (s : Shared) (cells : List (Addr × Obj)),
      Below A₀ base outer g → Fr g L s.heap (bindL (envOfC qual scope L f cdv).kindOf binds fun _ => none) → (frag.heap_1 w.params).In g → News g L s.heap (cells ++ news) →
      CellsAre (bindC (envOfC qual scope L f cdv).kindOf binds fun _ => none) (cellsFrom (L + 1) scope.names []) cells → (∀ p ∈ news, @LT.lt Nat _ p.1 L) → Top view LW mean mg mb g →
      dp + d < recursionLimit + 1 → un + 8 * d < cLine + 3 →
      wpAny (model PySem.Challenge.rw_iv0075_01.row.prog w) (ktrTop dp un gd qual scope L f cdv (cellsFrom (L + 1) scope.names []) outer) (execs body (envX qual scope L f cdv (cellsFrom (L + 1) scope.names []))) (BodyPost g L news s Post) (fun _ _ => False) s) :
    Ctr w d f news vs Post := by
  intro mean mg mb dp un gd cn cs a ccd cl outer A₀ base h₀ L m s Q E B F X N T hkc hdp hun hret
  refine wpAny_call (code_defC B F X N T rfl rfl hkc ho hcd (show dp < recursionLimit by omega) (BindsTo.of_eq hbind) hkind hnd ?_ hco hgen hk)
  intro g L' h₁ tk cells Fg F' N' Y' B' X' T' l1
  refine wpAny_mono (h mean mg mb (dp + 1) (un + 3) gd (envX cn cs L a ccd cl :: outer) _ base g L' { s with heap := h₁, toks := tk } cells B' F' X' N' Y' l1 T' (by omega) (by omega)) ?_ (fun _ _ e => e.elim)
  rintro fl s' ⟨v, nx, h', m', tk', rfl, rfl, F₂, N₂, ho₂, hp⟩
  exact ⟨L', m', nx ++ news, F₂, N₂, fun F₃ N₃ => hret v nx h' tk' hp ho₂ F₃ N₃⟩

open LCg LCt in
theorem restT_ind {prog : Program} {w : World} {A : Around} {h₀ : Heap} {L : Addr} {m : Str → Option Value} {env : Env} {ct elt : PySem.Expr} {x : Str} {scope : Scope} {cl : List (Str × Addr)} {s : Shared} {S : List (Addr × Obj) → Prop} {P : Nat → Value → Prop} {Fin : List Value → List (Addr × Obj) → Prop} {n : Nat} {news : List (Addr × Obj)}
    (J : Nat → List Value → Prop) (h0 : J 0 []) (fin : ∀ ys, J n ys → Fin ys news)
    (turn : ∀ i ys, i < n → J i ys → ∀ v I oI C oC D m₂ h tk (E' : Value → Shared → Prop), P i v → NsObj oC m₂ → m₂ x = some v → Fr h₀ L h m → News h₀ L h ((I, oI) :: (C, oC) :: (D, lst ys) :: news) → Off3 I C D news → ((@Ne Nat I C) ∧ (@Ne Nat I D) ∧ (@Ne Nat C D)) →
      wpAny (model prog w) A (isTrue ct (compEnvC scope cl C env) (eval ct (compEnvC scope cl C env))) (fun ok s' => if ok = true then
        wpAny (model prog w) A (eval elt (compEnvC scope cl C env)) (CompEnd h₀ L m { s with heap := h, toks := tk } I oI C oC D (lst ys) S (fun y news' => news' = news ∧ J (i + 1) (ys ++ [y]))) E' s'
        else CompEnd h₀ L m { s with heap := h, toks := tk } I oI C oC D (lst ys) S (fun _ news' => news' = news ∧ J (i + 1) ys) Value.none s') E' { s with heap := h, toks := tk }) :
    CompRestT prog w A h₀ L m env ct elt x scope cl s S P Fin n 0 [] news := by
  have all : ∀ k i ys, i + k = n → J i ys → CompRestT prog w A h₀ L m env ct elt x scope cl s S P Fin k i ys news := by
    intro k
    induction k with
    | zero => intro i ys hi hj; exact .zero (fin ys (by rw [← hi]; exact hj))
    | succ k ih =>
      intro i ys hi hj
      refine .succ fun v I oI C oC D m₂ h tk E' hP hC hx F N off ne => ?_
      refine wpAny_mono (turn i ys (by omega) hj v I oI C oC D m₂ h tk E' hP hC hx F N off ne) (fun ok s' q => ?_) fun _ _ e => e
      cases ok with
      | true =>
        rw [if_pos rfl] at q ⊢
        refine wpAny_mono q (fun y s₂ r => ?_) fun _ _ e => e
        obtain ⟨h', tk', news', rfl, F', N', off', hS', rfl, hj'⟩ := r
        exact ⟨h', tk', _, rfl, F', N', off', hS', ih (i + 1) _ (by omega) hj'⟩
      | false =>
        rw [if_neg (by decide)] at q ⊢
        obtain ⟨h', tk', news', rfl, F', N', off', hS', rfl, hj'⟩ := q
        exact ⟨h', tk', _, rfl, F', N', off', hS', ih (i + 1) _ (by omega) hj'⟩
  exact all n 0 [] (by omega) h0

open LCg in
theorem rest_ind {prog : Program} {w : World} {A : Around} {h₀ : Heap} {L : Addr} {m : Str → Option Value} {env : Env} {elt : PySem.Expr} {x : Str} {scope : Scope} {cl : List (Str × Addr)} {s : Shared} {S : List (Addr × Obj) → Prop} {P : Nat → Value → Prop} {Fin : List Value → List (Addr × Obj) → Prop} {n : Nat} {news : List (Addr × Obj)}
    (J : Nat → List Value → Prop) (h0 : J 0 []) (fin : ∀ ys, J n ys → Fin ys news)
    (turn : ∀ i ys, i < n → J i ys → ∀ v I oI C oC D m₂ h tk (E' : Value → Shared → Prop), P i v → NsObj oC m₂ → m₂ x = some v → Fr h₀ L h m → News h₀ L h ((I, oI) :: (C, oC) :: (D, lst ys) :: news) → Off3 I C D news → ((@Ne Nat I C) ∧ (@Ne Nat I D) ∧ (@Ne Nat C D)) →
      wpAny (model prog w) A (eval elt (compEnvC scope cl C env)) (CompEnd h₀ L m { s with heap := h, toks := tk } I oI C oC D (lst ys) S (fun y news' => news' = news ∧ J (i + 1) (ys ++ [y]))) E' { s with heap := h, toks := tk }) :
    CompRest prog w A h₀ L m env elt x scope cl s S P Fin n 0 [] news := by
  have all : ∀ k i ys, i + k = n → J i ys → CompRest prog w A h₀ L m env elt x scope cl s S P Fin k i ys news := by
    intro k
    induction k with
    | zero => intro i ys hi hj; exact .zero (fin ys (by rw [← hi]; exact hj))
    | succ k ih =>
      intro i ys hi hj
      refine .succ fun v I oI C oC D m₂ h tk E' hP hC hx F N off ne => ?_
      refine wpAny_mono (turn i ys (by omega) hj v I oI C oC D m₂ h tk E' hP hC hx F N off ne) (fun y s₂ r => ?_) fun _ _ e => e
      obtain ⟨h', tk', news', rfl, F', N', off', hS', rfl, hj'⟩ := r
      exact ⟨h', tk', _, rfl, F', N', off', hS', ih (i + 1) _ (by omega) hj'⟩
  exact all n 0 [] (by omega) h0
end
section
local macro_rules | `(tactic| walk_at "zz none 0") => `(tactic| skip)
local macro_rules | `(tactic| walk_at "call builtin:len") => `(tactic| ((with_reducible refine op_len ?hb ?_); (case hb => first | omega | (simp only [List.length_take, List.length_append, List.length_cons, List.length_nil, cutTo, cutFrom, List.length_drop] at *; omega)); intro _ _; (try dsimp only)))
local macro_rules | `(tactic| walk_at "subscriptTail Name Name str int") => `(tactic| ((with_reducible refine op_item _ ?hi ?hb ?_); (case hi => omega); (case hb => omega); intro _ _; (try dsimp only)))
local macro_rules | `(tactic| walk_at "subscriptTail Name BinOp str int") => `(tactic| ((with_reducible refine op_itemZ ?h0 ?hi ?hb ?_); (case h0 => first | omega | (simp only [decide_eq_true_eq, beq_iff_eq] at *; omega)); (case hi => first | omega | (simp only [decide_eq_true_eq, beq_iff_eq] at *; omega)); (case hb => omega); intro _ _; (try dsimp only)))
local macro_rules | `(tactic| walk_at "subscriptTail Name Constant str int") => `(tactic| ((with_reducible refine op_itemZ ?h0 ?hi ?hb ?_); (case h0 => first | decide | omega); (case hi => first | omega | (simp only [decide_eq_true_eq, beq_iff_eq] at *; omega)); (case hb => omega); intro _ _; (try dsimp only)))
local macro_rules | `(tactic| walk_at "compareOp In str str") => `(tactic| (with_reducible refine op_in ?_))
local macro_rules | `(tactic| walk_at "compareOp NotIn str str") => `(tactic| (with_reducible refine op_notin ?_))
local macro_rules | `(tactic| walk_at "compareOp Eq str str") => `(tactic| (with_reducible refine op_eq ?_))
local macro_rules | `(tactic| walk_at "call builtin:str.endswith") => `(tactic| ((with_reducible refine SC.endswith ?_); (try rw [endswith_S])))
local macro_rules | `(tactic| walk_at "subscriptTail Name Slice str ref") => `(tactic| ((with_reducible show wpAny _ _ (subscriptTail _ (Expr.Slice none (some _) none _) _ _) _ _ _); (with_reducible rename Fr _ _ _ _ => F'); (with_reducible rename News _ _ _ _ => N'); (refine op_to (s := ⟨_, _, _, _, _⟩) F' N' ?hb ?_); (case hb => omega); intro _ _ _ _ _; (try dsimp only)))
local macro_rules | `(tactic| walk_at "subscriptTail Name Slice str ref") => `(tactic| ((with_reducible show wpAny _ _ (subscriptTail _ (Expr.Slice (some _) none none _) _ _) _ _ _); (with_reducible rename Fr _ _ _ _ => F'); (with_reducible rename News _ _ _ _ => N'); (refine op_from (s := ⟨_, _, _, _, _⟩) F' N' ?hb ?_); (case hb => omega); intro _ _ _ _ _; (try dsimp only)))
local macro_rules | `(tactic| walk_at "subscriptTail Name UnaryOp str int") => `(tactic| ((with_reducible refine op_itemN ?h0 ?hi ?hb ?_); (case h0 => decide); (case hi => first | omega | (simp only [decide_eq_true_eq, beq_iff_eq] at *; omega)); (case hb => omega); intro _ _; (try dsimp only)))
local macro_rules | `(tactic| walk_at "binaryOp Add str str") => `(tactic| ((with_reducible refine op_add ?hb ?hy ?_); (case hb => omega); (case hy => first | decide | (rw [S_cps]; omega)); intro _ _; (try simp only [S_cps]); (try dsimp only)))
local macro_rules | `(tactic| walk_at "inplaceOp Add str str") => `(tactic| ((with_reducible refine op_iadd ?hb ?hy ?_); (case hb => omega); (case hy => first | decide | (rw [S_cps]; omega)); intro _ _; (try simp only [S_cps]); (try dsimp only)))
local macro_rules | `(tactic| walk_at "compareOp NotEq str str") => `(tactic| (with_reducible refine op_ne ?_))
local macro_rules | `(tactic| walk_at "subscriptTail Name UnaryOp str int") => `(tactic| ((with_reducible refine op_itemN ?h0 ?hi ?hb ?_); (case h0 => decide); (case hi => exact pos_of_ne (by assumption)); (case hb => omega); intro _ _; (try dsimp only)))
local macro_rules | `(tactic| walk_at "subscriptTail Name Name str int") => `(tactic| ((with_reducible refine op_itemZ ?h0 ?hi ?hb ?_); (case h0 => omega); (case hi => omega); (case hb => omega); intro _ _; (try dsimp only)))
local macro_rules | `(tactic| walk_at "subscriptTail Name Name str int") => `(tactic| ((with_reducible refine op_item _ ?hi ?hb ?_); (case hi => omega); (case hb => omega); intro _ _; (try dsimp only)))
local macro_rules | `(tactic| walk_at "binaryOp Add str str") => `(tactic| ((with_reducible refine op_add_l ?hb ?hy ?_); (case hb => first | omega | (simp only [cutTo, cutFrom, List.length_take, List.length_drop]; omega)); (case hy => first | decide | (rw [S_cps]; omega)); intro _ _; (try simp only [S_cps]); (try dsimp only)))
local macro_rules | `(tactic| walk_at "binaryOp Add str str") => `(tactic| ((with_reducible refine op_add ?hb ?hy ?_); (case hb => first | omega | (simp only [cutTo, cutFrom, List.length_take, List.length_drop]; omega)); (case hy => first | decide | (rw [S_cps]; first | omega | (simp only [List.length_cons, List.length_nil]; omega))); intro _ _; (try simp only [S_cps]); (try dsimp only)))
local macro_rules | `(tactic| walk_at "exec For Name Name cons nil") => `(tactic| refine Hold.mk ?_)
local macro_rules | `(tactic| walk_at "pyIter str") => `(tactic| refine Hold.mk ?_)
local macro_rules | `(tactic| walk_at "pyIter ref") => `(tactic| refine Hold.mk ?_)
noncomputable def isV (f : List Nat) (c : Nat) : Bool := (c == 97 || (c == 101 || (c == 105 || (c == 111 || c == 117)))) || (c == 121 && (!(f == []) && f.getD (f.length - 1) 0 == 99))
noncomputable def formStep (f : List Nat) (c : Nat) : List Nat := f ++ [if isV f c then 118 else 99]
noncomputable def formF (l : List Nat) : List Nat := l.foldl formStep []
theorem one_beq (a b : Nat) : (S [a] == S [b]) = (b == a) := by
  rw [S_beq, Bool.eq_iff_iff, beq_iff_eq, beq_iff_eq]
  constructor
  · intro h; cases h; rfl
  · intro h; rw [h]
theorem vow5 (n : Nat) : ([Str.ofString "a", Str.ofString "e", Str.ofString "i", Str.ofString "o", Str.ofString "u"].any fun x => x == S [n]) = (n == 97 || (n == 101 || (n == 105 || (n == 111 || n == 117)))) := by
  rw [show Str.ofString "a" = S [97] from rfl, show Str.ofString "e" = S [101] from rfl, show Str.ofString "i" = S [105] from rfl, show Str.ofString "o" = S [111] from rfl, show Str.ofString "u" = S [117] from rfl]
  simp only [List.any_cons, List.any_nil, one_beq, Bool.or_false]
theorem one_beqL (a b : Nat) : ([a] == [b]) = (a == b) := by
  rw [Bool.eq_iff_iff, beq_iff_eq, beq_iff_eq]
  constructor
  · intro h; cases h; rfl
  · intro h; rw [h]
theorem codes_S (l : List Nat) : (KStt.codes (S l)).map Int.toNat = l := by
  have h := KStt.txt_codes (S l)
  unfold KStt.txt S at h
  have h2 : ((KStt.codes (S l)).map Int.toNat).toArray = l.toArray := congrArg Str.cps h
  have h3 := congrArg Array.toList h2
  rwa [List.toList_toArray, List.toList_toArray] at h3
theorem fold_snoc {f : List Nat} {pre : List Int} {n : Nat} (hf : f = (pre.map Int.toNat).foldl formStep []) : ((pre ++ [(n : Int)]).map Int.toNat).foldl formStep [] = formStep f n := by
  rw [List.map_append, List.foldl_append, ← hf]; rfl
theorem form_turn {news news' own : List (Addr × Obj)} {g h' : Heap} {L : Addr} {s₁ : Shared} {tk : Nat} {m₀ m' : Str → Option Value} {pre : List Int} {n : Nat} {f f' : List Nat} {t : Tok}
    (F : Fr g L h' m') (N : News g L h' news') (hn : ∀ p ∈ news, p ∈ news') (ho : ∀ p ∈ own, p ∈ news') (hf : f = (pre.map Int.toNat).foldl formStep []) (hl : f.length = pre.length)
    (h1 : m' (Str.ofString "form") = some (.str (S f') t)) (h2 : ∀ z, z ≠ Str.ofString "sign" → z ≠ Str.ofString "form" → m' z = m₀ z) (hp : f' = formStep f n) :
    InvEndN g L (KstS (fun _ => news) (fun c : List Nat × Tok => [(Str.ofString "form", .str (S c.1) c.2)]) (fun _ => True) (Str.ofString "sign") [] m₀ (fun pre c => c.1 = (pre.map Int.toNat).foldl formStep [] ∧ c.1.length = pre.length) (pre ++ [(n : Int)])) own (news.map (·.1)) s₁ { s₁ with heap := h', toks := tk } :=
  kst_end (f', t) F N hn ho rfl trivial (by intro z hz; cases hz with | head => exact h1 | tail _ h => cases h) (fun z a b _ => h2 z a (b _ (.head _))) ⟨by rw [fold_snoc hf, hp], by rw [hp]; simp [formStep, hl]⟩
theorem form_ctr (w : World) (news : List (Addr × Obj)) (l : List Nat) (tx : Tok) (hx : l.length ≤ 1000) :
    Ctr w 1 174 news [.str (S l) tx] fun v nx => ∃ t, v = .str (S (formF l)) t ∧ nx = [] := by
  w_top off
  have hfill : PySem.Challenge.rw_iv0075_01 = PySem.Challenge.rw_iv0075_01 ∧ frag.heap_1 = frag.heap_1 := by
    k_fill
    exact ⟨rfl, rfl⟩
  refine' Ctr.intro [(Str.ofString "word", .str (S l) tx)] ?k1 ?k2 ?k3 ?k4 ?k5 ?k6 ?k7 ?k8 ?_
  case k1 => k_is
  case k2 => k_is
  case k3 => rfl
  case k4 => exact locs rfl
  case k5 => rfl
  case k6 => rfl
  case k7 => rfl
  case k8 => decide
  intro mean mg mb dp un gd outer A₀ base g L s B F X N T hdp hun
  try k_fold
  k_steps
  unfold Hold
  (rename Fr _ _ _ _ => F9); (rename News _ _ _ _ => N9)
  refine For_invVF F9 rfl rfl ?_
  k_steps
  unfold Hold
  refine KStt.kst_text (σ := List Nat × Tok) (fun _ => news) (fun c => [(Str.ofString "form", .str (S c.1) c.2)]) (fun _ => True) [] (fun pre c => c.1 = (pre.map Int.toNat).foldl formStep [] ∧ c.1.length = pre.length) ([], _) rfl F9 N9 trivial (by intro z hz; cases hz with | head => rfl | tail _ h => cases h) ⟨rfl, rfl⟩ ?_ ?_
  · rintro ⟨f, tf⟩ pre post n t u h tk own hpre hown _ ⟨hf, hfl⟩ F1 N1
    dsimp only at hf hfl
    dsimp only [kstB] at F1
    have hpl : pre.length < l.length := by
      have h9 := congrArg List.length hpre
      rw [KStt.codes_length, len_S, List.length_append, List.length_cons] at h9
      omega
    have en : (Str.mk #[n]) = S [n] := rfl
    rw [en] at F1
    have hfb : f.length ≤ 1000 := by omega
    k_steps
    all_goals ((rename Fr _ _ _ _ => F9); (rename News _ _ _ _ => N9); (rename List.any _ _ = _ => ha); rw [vow5] at ha)
    · exact form_turn F9 N9 (fun p hp => .tail _ (List.mem_append.mpr (.inl hp))) (fun p hp => .tail _ (List.mem_append.mpr (.inr hp))) hf hfl rfl (by
        intro z h1 h3
        simp only [if_neg h1, if_neg h3]
        try rfl) (by unfold formStep isV; rw [ha]; rfl)
    · rename (f == _) = _ => hb
      rename ([n] == _) = _ => hc
      exact form_turn F9 N9 (fun p hp => .tail _ (List.mem_append.mpr (.inl hp))) (fun p hp => .tail _ (List.mem_append.mpr (.inr hp))) hf hfl rfl (by
        intro z h1 h3
        simp only [if_neg h1, if_neg h3]
        try rfl) (by unfold formStep isV; rw [ha, show (f == []) = true from hb]; rw [Bool.not_true, Bool.false_and, Bool.and_false]; rfl)
    · rename ([n] == _) = _ => hc
      rename (f == _) = _ => hb
      rename ([List.getD _ _ _] == _) = _ => hd
      have hc' : (n == 121) = true := by rw [← one_beqL]; exact hc
      have hd' : (f.getD (f.length - 1) 0 == 99) = true := by rw [← one_beqL]; exact hd
      exact form_turn F9 N9 (fun p hp => .tail _ (List.mem_append.mpr (.inl hp))) (fun p hp => .tail _ (List.mem_append.mpr (.inr hp))) hf hfl rfl (by
        intro z h1 h3
        simp only [if_neg h1, if_neg h3]
        try rfl) (by unfold formStep isV; rw [ha, show (f == []) = false from hb, hc', hd']; rfl)
    · rename ([n] == _) = _ => hc
      rename (f == _) = _ => hb
      rename ([List.getD _ _ _] == _) = _ => hd
      have hc' : (n == 121) = true := by rw [← one_beqL]; exact hc
      have hd' : (f.getD (f.length - 1) 0 == 99) = false := by rw [← one_beqL]; exact hd
      exact form_turn F9 N9 (fun p hp => .tail _ (List.mem_append.mpr (.inl hp))) (fun p hp => .tail _ (List.mem_append.mpr (.inr hp))) hf hfl rfl (by
        intro z h1 h3
        simp only [if_neg h1, if_neg h3]
        try rfl) (by unfold formStep isV; rw [ha, show (f == []) = false from hb, hc', hd']; rfl)
    · rename ([n] == _) = _ => hc
      have hc' : (n == 121) = false := by rw [← one_beqL]; exact hc
      exact form_turn F9 N9 (fun p hp => .tail _ (List.mem_append.mpr (.inl hp))) (fun p hp => .tail _ (List.mem_append.mpr (.inr hp))) hf hfl rfl (by
        intro z h1 h3
        simp only [if_neg h1, if_neg h3]
        try rfl) (by unfold formStep isV; rw [ha, hc', Bool.false_and]; rfl)
  · rintro ⟨f, tf⟩ u h tk _ ⟨hf, hfl⟩ F1 N1
    dsimp only at hf hfl
    dsimp only [kstB] at F1
    rw [codes_S] at hf
    k_steps
    exact BodyPost.plain F1 N1 (fun _ h => h) ⟨tf, by rw [hf]; rfl, rfl⟩
end
section
local macro_rules | `(tactic| walk_at "zz none 0") => `(tactic| skip)
local macro_rules | `(tactic| walk_at "call builtin:len") => `(tactic| ((with_reducible refine op_len ?hb ?_); (case hb => first | omega | (simp only [List.length_take, List.length_append, List.length_cons, List.length_nil, cutTo, cutFrom, List.length_drop] at *; omega)); intro _ _; (try dsimp only)))
local macro_rules | `(tactic| walk_at "subscriptTail Name Name str int") => `(tactic| ((with_reducible refine op_item _ ?hi ?hb ?_); (case hi => omega); (case hb => omega); intro _ _; (try dsimp only)))
local macro_rules | `(tactic| walk_at "subscriptTail Name BinOp str int") => `(tactic| ((with_reducible refine op_itemZ ?h0 ?hi ?hb ?_); (case h0 => first | omega | (simp only [decide_eq_true_eq, beq_iff_eq] at *; omega)); (case hi => first | omega | (simp only [decide_eq_true_eq, beq_iff_eq] at *; omega)); (case hb => omega); intro _ _; (try dsimp only)))
local macro_rules | `(tactic| walk_at "subscriptTail Name Constant str int") => `(tactic| ((with_reducible refine op_itemZ ?h0 ?hi ?hb ?_); (case h0 => first | decide | omega); (case hi => first | omega | (simp only [decide_eq_true_eq, beq_iff_eq] at *; omega)); (case hb => omega); intro _ _; (try dsimp only)))
local macro_rules | `(tactic| walk_at "compareOp In str str") => `(tactic| (with_reducible refine op_in ?_))
local macro_rules | `(tactic| walk_at "compareOp NotIn str str") => `(tactic| (with_reducible refine op_notin ?_))
local macro_rules | `(tactic| walk_at "compareOp Eq str str") => `(tactic| (with_reducible refine op_eq ?_))
local macro_rules | `(tactic| walk_at "call builtin:str.endswith") => `(tactic| ((with_reducible refine SC.endswith ?_); (try rw [endswith_S])))
local macro_rules | `(tactic| walk_at "subscriptTail Name Slice str ref") => `(tactic| ((with_reducible show wpAny _ _ (subscriptTail _ (Expr.Slice none (some _) none _) _ _) _ _ _); (with_reducible rename Fr _ _ _ _ => F'); (with_reducible rename News _ _ _ _ => N'); (refine op_to (s := ⟨_, _, _, _, _⟩) F' N' ?hb ?_); (case hb => omega); intro _ _ _ _ _; (try dsimp only)))
local macro_rules | `(tactic| walk_at "subscriptTail Name Slice str ref") => `(tactic| ((with_reducible show wpAny _ _ (subscriptTail _ (Expr.Slice (some _) none none _) _ _) _ _ _); (with_reducible rename Fr _ _ _ _ => F'); (with_reducible rename News _ _ _ _ => N'); (refine op_from (s := ⟨_, _, _, _, _⟩) F' N' ?hb ?_); (case hb => omega); intro _ _ _ _ _; (try dsimp only)))
local macro_rules | `(tactic| walk_at "subscriptTail Name UnaryOp str int") => `(tactic| ((with_reducible refine op_itemN ?h0 ?hi ?hb ?_); (case h0 => decide); (case hi => first | omega | (simp only [decide_eq_true_eq, beq_iff_eq] at *; omega)); (case hb => omega); intro _ _; (try dsimp only)))
local macro_rules | `(tactic| walk_at "binaryOp Add str str") => `(tactic| ((with_reducible refine op_add ?hb ?hy ?_); (case hb => omega); (case hy => first | decide | (rw [S_cps]; omega)); intro _ _; (try simp only [S_cps]); (try dsimp only)))
local macro_rules | `(tactic| walk_at "inplaceOp Add str str") => `(tactic| ((with_reducible refine op_iadd ?hb ?hy ?_); (case hb => omega); (case hy => first | decide | (rw [S_cps]; omega)); intro _ _; (try simp only [S_cps]); (try dsimp only)))
local macro_rules | `(tactic| walk_at "compareOp NotEq str str") => `(tactic| (with_reducible refine op_ne ?_))
local macro_rules | `(tactic| walk_at "subscriptTail Name UnaryOp str int") => `(tactic| ((with_reducible refine op_itemN ?h0 ?hi ?hb ?_); (case h0 => decide); (case hi => exact pos_of_ne (by assumption)); (case hb => omega); intro _ _; (try dsimp only)))
local macro_rules | `(tactic| walk_at "subscriptTail Name Name str int") => `(tactic| ((with_reducible refine op_itemZ ?h0 ?hi ?hb ?_); (case h0 => omega); (case hi => omega); (case hb => omega); intro _ _; (try dsimp only)))
local macro_rules | `(tactic| walk_at "subscriptTail Name Name str int") => `(tactic| ((with_reducible refine op_item _ ?hi ?hb ?_); (case hi => omega); (case hb => omega); intro _ _; (try dsimp only)))
local macro_rules | `(tactic| walk_at "binaryOp Add str str") => `(tactic| ((with_reducible refine op_add_l ?hb ?hy ?_); (case hb => first | omega | (simp only [cutTo, cutFrom, List.length_take, List.length_drop]; omega)); (case hy => first | decide | (rw [S_cps]; omega)); intro _ _; (try simp only [S_cps]); (try dsimp only)))
local macro_rules | `(tactic| walk_at "binaryOp Add str str") => `(tactic| ((with_reducible refine op_add ?hb ?hy ?_); (case hb => first | omega | (simp only [cutTo, cutFrom, List.length_take, List.length_drop]; omega)); (case hy => first | decide | (rw [S_cps]; first | omega | (simp only [List.length_cons, List.length_nil]; omega))); intro _ _; (try simp only [S_cps]); (try dsimp only)))
local macro_rules | `(tactic| walk_at "call ref") => `(tactic| ((with_reducible show wpAny _ _ (call (Value.ref 174) _) _ _ _); k_dflt (refine' Ctr.use (form_ctr _ _ _ _ ?hx) ?k1 ?k2 ?k3 ?k4 ?k5 ?k6 ?k7 ?k8 ?_; (case k1 => k_asm); (case k2 => k_asm); (case k3 => k_asm); (case k4 => k_asm); (case k5 => k_asm); (case k6 => rfl)); (case hx => omega); (case k7 => first | exact room (by assumption) (by decide) | decide | omega); (case k8 => first | exact roomU (by assumption) (by decide) | decide | omega); (intro v9 nx9 h9 tk9 hP9 hO9 F9 N9); (obtain ⟨t9, hv9, hn9⟩ := hP9); (subst hv9); (subst hn9); (try dsimp only); (try simp only [List.nil_append, List.cons_append] at N9)))
theorem formF_len (l : List Nat) : (formF l).length = l.length := by
  have h : ∀ (l f : List Nat), (l.foldl formStep f).length = f.length + l.length := by
    intro l
    induction l with
    | nil => intro f; rfl
    | cons c r ih => intro f; rw [List.foldl_cons, ih]; simp [formStep]; omega
  have := h l []
  simpa [formF] using this
noncomputable def voicedF (l : List Nat) : Bool := (formF l).contains 118
local macro_rules | `(tactic| walk_at "eval ListComp") => `(tactic| refine Hold.mk ?_)
theorem op_in1 {prog : Program} {w : World} {A : Around} {E : Value → Shared → Prop} {s : Shared} {t u : Tok} {Q : Value → Shared → Prop} {x y : Str} {c : Nat} (hx : x = S [c]) (h : Q (.bool (y.cps.toList.contains c)) s) : wpAny (model prog w) A (compareOp .In (.str x t) (.str y u)) Q E s := by
  subst hx; exact op_in h
theorem pos_of_cvc {l : List Nat} (h : (cutFrom (formF l) (-3) == (Str.ofString "cvc").cps.toList) = true) : -(-1 : Int) ≤ (l.length : Int) := by
  cases l with
  | nil => exact absurd h (by decide)
  | cons a r => simp only [List.length_cons]; omega
local macro_rules | `(tactic| walk_at "compareOp In str str") => `(tactic| ((with_reducible show wpAny _ _ (compareOp _ (Value.str (Str.ofString "v") _) _) _ _ _); refine op_in1 (c := 118) rfl ?_))
local macro_rules | `(tactic| walk_at "subscriptTail Name UnaryOp str int") => `(tactic| ((with_reducible refine op_itemN ?h0 ?hi ?hb ?_); (case h0 => decide); (case hi => exact pos_of_cvc (by assumption)); (case hb => omega); intro _ _; (try dsimp only)))
local macro_rules | `(tactic| k_all) => `(tactic| assumption)
noncomputable def shortF (l : List Nat) : Bool := cutFrom (formF l) (-3) == (Str.ofString "cvc").cps.toList && !([Str.ofString "w", Str.ofString "x", Str.ofString "y"].any fun x => x == S [l.getD (l.length - 1) 0])
noncomputable def measP (f : List Nat) (k : Nat) : Bool := f.getD k 0 == 118 && f.getD (k + 1) 0 == 99
noncomputable def measureF (l : List Nat) : Nat := ((List.range (l.length - 1)).filter (measP (formF l))).length
theorem voiced_ctr (w : World) (news : List (Addr × Obj)) (l : List Nat) (tx : Tok) (hx : l.length ≤ 1000) :
    Ctr w 2 186 news [.str (S l) tx] fun v nx => v = .bool (voicedF l) ∧ nx = [] := by
  w_top off
  have hfill : PySem.Challenge.rw_iv0075_01 = PySem.Challenge.rw_iv0075_01 ∧ frag.heap_1 = frag.heap_1 := by
    k_fill
    exact ⟨rfl, rfl⟩
  refine' Ctr.intro [(Str.ofString "word", .str (S l) tx)] ?k1 ?k2 ?k3 ?k4 ?k5 ?k6 ?k7 ?k8 ?_
  case k1 => k_is
  case k2 => k_is
  case k3 => rfl
  case k4 => exact locs rfl
  case k5 => rfl
  case k6 => rfl
  case k7 => rfl
  case k8 => decide
  intro mean mg mb dp un gd outer A₀ base g L s B F X N T hdp hun
  have hfl := formF_len l
  try k_fold
  k_steps
  all_goals ((try dsimp only); (rename Fr _ _ _ _ => F9); (rename News _ _ _ _ => N9); refine BodyPost.plain F9 N9 (by intro p hp; first | exact hp | exact .tail _ hp) ⟨congrArg Value.bool ?_, rfl⟩)
  · rw [S_cps]; rfl

theorem short_ctr (w : World) (news : List (Addr × Obj)) (l : List Nat) (tx : Tok) (hx : l.length ≤ 1000) :
    Ctr w 2 193 news [.str (S l) tx] fun v nx => v = .bool (shortF l) ∧ nx = [] := by
  w_top off
  have hfill : PySem.Challenge.rw_iv0075_01 = PySem.Challenge.rw_iv0075_01 ∧ frag.heap_1 = frag.heap_1 := by
    k_fill
    exact ⟨rfl, rfl⟩
  refine' Ctr.intro [(Str.ofString "word", .str (S l) tx)] ?k1 ?k2 ?k3 ?k4 ?k5 ?k6 ?k7 ?k8 ?_
  case k1 => k_is
  case k2 => k_is
  case k3 => rfl
  case k4 => exact locs rfl
  case k5 => rfl
  case k6 => rfl
  case k7 => rfl
  case k8 => decide
  intro mean mg mb dp un gd outer A₀ base g L s B F X N T hdp hun
  have hfl := formF_len l
  try k_fold
  k_steps
  all_goals ((try dsimp only); (rename Fr _ _ _ _ => F9); (rename News _ _ _ _ => N9); refine BodyPost.plain F9 N9 (by intro p hp; first | exact hp | exact .tail _ hp) ⟨congrArg Value.bool ?_, rfl⟩)
  all_goals (rename (cutFrom _ _ == _) = _ => ha; unfold shortF; rw [ha]; rfl)

local macro_rules | `(tactic| walk_at "CompSrcT") => `(tactic| refine Hold.mk ?_)
local macro_rules | `(tactic| walk_at "CompSrc") => `(tactic| refine Hold.mk ?_)
theorem op_lenL {prog : Program} {w : World} {A : Around} {E : Value → Shared → Prop} {s : Shared} {D : Addr} {its : Array Value} {Q : Value → Shared → Prop} (hl : s.heap.IsList D its) (hb : its.size ≤ 100000) (h : ∀ t' tk, Q (.int its.size t') { s with toks := tk }) : wpAny (model prog w) A (call (.builtin "len") [.ref D]) Q E s :=
  len_list hl (by omega) (h _ _)
theorem filter_snoc (p : Nat → Bool) (i : Nat) : ((List.range (i + 1)).filter p).length = ((List.range i).filter p).length + (if p i then 1 else 0) := by
  rw [List.range_succ, List.filter_append, List.length_append]
  cases h : p i <;> simp [h]
theorem range_size1 (n : Nat) : Builtin.Range.rangeSize 1 (n : Int) 1 = ((n - 1 : Nat) : Int) := by
  unfold Builtin.Range.rangeSize
  rw [if_pos (by decide)]
  split <;> omega
theorem measure_ctr (w : World) (news : List (Addr × Obj)) (l : List Nat) (tx : Tok) (hx : l.length ≤ 1000) :
    Ctr w 2 179 news [.str (S l) tx] fun v nx => ∃ t, v = .int (measureF l) t ∧ nx = [] := by
  w_top off
  have hfill : PySem.Challenge.rw_iv0075_01 = PySem.Challenge.rw_iv0075_01 ∧ frag.heap_1 = frag.heap_1 := by
    k_fill
    exact ⟨rfl, rfl⟩
  refine' Ctr.introC [(Str.ofString "word", .str (S l) tx)] ?k1 ?k2 ?k3 ?k4 ?k4b ?k5 ?k6 ?k7 ?_
  case k1 => k_is
  case k2 => k_is
  case k3 => rfl
  case k4 => rfl
  case k4b => decide +kernel
  case k5 => rfl
  case k6 => rfl
  case k7 => rfl
  intro mean mg mb dp un gd outer A₀ base g L s cells B F X N Y l1 T hdp hun
  k_cells Y
  simp only [List.cons_append, List.nil_append] at N
  have hcell : ∀ p ∈ news, p.1 ≠ L + 1 := fun p hp => Nat.ne_of_lt (Nat.lt_succ_of_lt (l1 p hp))
  have hfl := formF_len l
  try k_fold
  k_steps
  unfold Hold
  (rename Fr _ _ _ _ => F9); (rename News _ _ _ _ => N9)
  refine LCt.ListComp_T (F₀ := F9) (by with_unfolding_all rfl) (by decide) (by rfl) (by decide) (by rfl) ?_
  k_steps
  unfold Hold
  (rename Fr _ _ _ _ => F8); (rename News _ _ _ _ => N8)
  refine LCt.CompSrcT.range rfl F8 N8 (by assumption) (small_one (by omega) (by omega) (by omega) (by omega)) (range_size1 _) (by rw [sizeLine_eq, hfl]; omega) ?_
  intro g'
  rw [hfl]
  refine restT_ind (fun i ys => ys.length = ((List.range i).filter (measP (formF l))).length) rfl ?_ ?_
  · intro ys hys D h tk F7 N7 off
    have hyl : ys.length ≤ 1000 := by
      have h9 := List.length_filter_le (measP (formF l)) (List.range (l.length - 1))
      rw [List.length_range] at h9
      omega
    k_steps
    refine op_lenL (its := ys.toArray) (News.isList N7 (.head _)) (by rw [List.size_toArray]; omega) (fun t' tk' => ?_)
    k_steps
    exact BodyPost.plain F7 N7 (fun p hp => .tail _ (.tail _ hp)) ⟨t', by rw [List.size_toArray, hys]; rfl, rfl⟩
  · rintro i ys hi hj v I oI C oC D m₂ h tk E' ⟨t, rfl⟩ hC hx2 F7 N7 off ne
    have e1 : (1 + (i : Int) - 1).toNat = i := by omega
    have e2 : (1 + (i : Int)).toNat = i + 1 := by omega
    k_steps
    · simp only [e1, e2] at *
      rename ([List.getD _ (i + 1) _] == _) = _ => hb
      rename ([List.getD _ i _] == _) = _ => ha
      have h1 : ((formF l).getD i 0 == 118) = true := by rw [← one_beqL]; exact ha
      have h2 : ((formF l).getD (i + 1) 0 == 99) = true := by rw [← one_beqL]; exact hb
      refine LCg.CompEnd.intro F7 N7 _ (fun p hp => hp) off trivial ⟨rfl, ?_⟩
      rw [filter_snoc, List.length_append, hj, show measP (formF l) i = true from by unfold measP; rw [h1, h2]; rfl]; rfl
    · simp only [e1, e2] at *
      rename ([List.getD _ (i + 1) _] == _) = _ => hb
      rename ([List.getD _ i _] == _) = _ => ha
      have h1 : ((formF l).getD i 0 == 118) = true := by rw [← one_beqL]; exact ha
      have h2 : ((formF l).getD (i + 1) 0 == 99) = false := by rw [← one_beqL]; exact hb
      refine LCg.CompEnd.intro F7 N7 _ (fun p hp => hp) off trivial ⟨rfl, ?_⟩
      rw [filter_snoc, hj, show measP (formF l) i = false from by unfold measP; rw [h1, h2]; rfl]; rfl
    · simp only [e1] at *
      rename ([List.getD _ i _] == _) = _ => ha
      have h1 : ((formF l).getD i 0 == 118) = false := by rw [← one_beqL]; exact ha
      refine LCg.CompEnd.intro F7 N7 _ (fun p hp => hp) off trivial ⟨rfl, ?_⟩
      rw [filter_snoc, hj, show measP (formF l) i = false from by unfold measP; rw [h1]; rfl]; rfl
end
section
local macro_rules | `(tactic| walk_at "call builtin:len") => `(tactic| ((with_reducible refine op_len ?hb ?_); (case hb => first | omega | (simp only [List.length_take, List.length_append, List.length_cons, List.length_nil, cutTo, cutFrom, List.length_drop] at *; omega)); intro _ _; (try dsimp only)))
local macro_rules | `(tactic| walk_at "subscriptTail Name Name str int") => `(tactic| ((with_reducible refine op_item _ ?hi ?hb ?_); (case hi => omega); (case hb => omega); intro _ _; (try dsimp only)))
local macro_rules | `(tactic| walk_at "subscriptTail Name BinOp str int") => `(tactic| ((with_reducible refine op_itemZ ?h0 ?hi ?hb ?_); (case h0 => first | omega | (simp only [decide_eq_true_eq, beq_iff_eq] at *; omega)); (case hi => first | omega | (simp only [decide_eq_true_eq, beq_iff_eq] at *; omega)); (case hb => omega); intro _ _; (try dsimp only)))
local macro_rules | `(tactic| walk_at "subscriptTail Name Constant str int") => `(tactic| ((with_reducible refine op_itemZ ?h0 ?hi ?hb ?_); (case h0 => first | decide | omega); (case hi => first | omega | (simp only [decide_eq_true_eq, beq_iff_eq] at *; omega)); (case hb => omega); intro _ _; (try dsimp only)))
local macro_rules | `(tactic| walk_at "compareOp In str str") => `(tactic| (with_reducible refine op_in ?_))
local macro_rules | `(tactic| walk_at "compareOp NotIn str str") => `(tactic| (with_reducible refine op_notin ?_))
local macro_rules | `(tactic| walk_at "compareOp Eq str str") => `(tactic| (with_reducible refine op_eq ?_))
local macro_rules | `(tactic| walk_at "call builtin:str.endswith") => `(tactic| ((with_reducible refine SC.endswith ?_); (try rw [endswith_S])))
local macro_rules | `(tactic| walk_at "subscriptTail Name Slice str ref") => `(tactic| ((with_reducible show wpAny _ _ (subscriptTail _ (Expr.Slice none (some _) none _) _ _) _ _ _); (with_reducible rename Fr _ _ _ _ => F'); (with_reducible rename News _ _ _ _ => N'); (refine op_to (s := ⟨_, _, _, _, _⟩) F' N' ?hb ?_); (case hb => omega); intro _ _ _ _ _; (try dsimp only)))
local macro_rules | `(tactic| walk_at "subscriptTail Name Slice str ref") => `(tactic| ((with_reducible show wpAny _ _ (subscriptTail _ (Expr.Slice (some _) none none _) _ _) _ _ _); (with_reducible rename Fr _ _ _ _ => F'); (with_reducible rename News _ _ _ _ => N'); (refine op_from (s := ⟨_, _, _, _, _⟩) F' N' ?hb ?_); (case hb => omega); intro _ _ _ _ _; (try dsimp only)))
local macro_rules | `(tactic| walk_at "subscriptTail Name UnaryOp str int") => `(tactic| ((with_reducible refine op_itemN ?h0 ?hi ?hb ?_); (case h0 => decide); (case hi => first | omega | (simp only [decide_eq_true_eq, beq_iff_eq] at *; omega)); (case hb => omega); intro _ _; (try dsimp only)))
local macro_rules | `(tactic| walk_at "binaryOp Add str str") => `(tactic| ((with_reducible refine op_add ?hb ?hy ?_); (case hb => omega); (case hy => first | decide | (rw [S_cps]; omega)); intro _ _; (try simp only [S_cps]); (try dsimp only)))
local macro_rules | `(tactic| walk_at "inplaceOp Add str str") => `(tactic| ((with_reducible refine op_iadd ?hb ?hy ?_); (case hb => omega); (case hy => first | decide | (rw [S_cps]; omega)); intro _ _; (try simp only [S_cps]); (try dsimp only)))
local macro_rules | `(tactic| walk_at "compareOp NotEq str str") => `(tactic| (with_reducible refine op_ne ?_))
local macro_rules | `(tactic| walk_at "subscriptTail Name UnaryOp str int") => `(tactic| ((with_reducible refine op_itemN ?h0 ?hi ?hb ?_); (case h0 => decide); (case hi => exact pos_of_ne (by assumption)); (case hb => omega); intro _ _; (try dsimp only)))
local macro_rules | `(tactic| walk_at "subscriptTail Name Name str int") => `(tactic| ((with_reducible refine op_itemZ ?h0 ?hi ?hb ?_); (case h0 => omega); (case hi => omega); (case hb => omega); intro _ _; (try dsimp only)))
local macro_rules | `(tactic| walk_at "subscriptTail Name Name str int") => `(tactic| ((with_reducible refine op_item _ ?hi ?hb ?_); (case hi => omega); (case hb => omega); intro _ _; (try dsimp only)))
local macro_rules | `(tactic| walk_at "binaryOp Add str str") => `(tactic| ((with_reducible refine op_add_l ?hb ?hy ?_); (case hb => first | omega | (simp only [cutTo, cutFrom, List.length_take, List.length_drop]; omega)); (case hy => first | decide | (rw [S_cps]; omega)); intro _ _; (try simp only [S_cps]); (try dsimp only)))
local macro_rules | `(tactic| walk_at "binaryOp Add str str") => `(tactic| ((with_reducible refine op_add ?hb ?hy ?_); (case hb => first | omega | (simp only [cutTo, cutFrom, List.length_take, List.length_drop]; omega)); (case hy => first | decide | (rw [S_cps]; first | omega | (simp only [List.length_cons, List.length_nil]; omega))); intro _ _; (try simp only [S_cps]); (try dsimp only)))
local macro_rules | `(tactic| walk_at "exec For Name Name cons nil") => `(tactic| refine Hold.mk ?_)
local macro_rules | `(tactic| walk_at "pyIter str") => `(tactic| refine Hold.mk ?_)
local macro_rules | `(tactic| walk_at "pyIter ref") => `(tactic| refine Hold.mk ?_)
noncomputable def stepG (l : List Nat) (f : List Nat) (y : Str) : List Nat := if y.cps.toList.isSuffixOf l = true ∧ f.length < y.cps.toList.length then y.cps.toList else f
noncomputable def longG (l : List Nat) (ys : List Str) : List Nat := ys.foldl (stepG l) []
theorem stepG_len {l f : List Nat} {y : Str} {n : Nat} (hf : f.length ≤ n) (hy : y.length ≤ n) : (stepG l f y).length ≤ n := by
  unfold stepG
  split
  · have e : y.length = y.cps.toList.length := by simp [Str.length]
    omega
  · exact hf
theorem longG_len {l : List Nat} {n : Nat} : ∀ (ys : List Str) (f : List Nat), f.length ≤ n → (∀ y ∈ ys, y.length ≤ n) → (ys.foldl (stepG l) f).length ≤ n
  | [], _, h, _ => h
  | y :: ys, f, h, hy => longG_len ys _ (stepG_len h (hy y (.head _))) fun z hz => hy z (.tail _ hz)
theorem stepG_no {l f e : List Nat} (h : ¬ (e.isSuffixOf l = true ∧ f.length < e.length)) : stepG l f (S e) = f := by
  unfold stepG
  rw [S_cps, if_neg h]
theorem stepG_yes {l f e : List Nat} (h : e.isSuffixOf l = true) (h2 : f.length < e.length) : stepG l f (S e) = e := by
  unfold stepG
  rw [S_cps, if_pos ⟨h, h2⟩]
theorem lawlong_ctr (w : World) (news : List (Addr × Obj)) (l : List Nat) (tx : Tok) (d : Addr) (vs : List Value) (ys : List Str) (n : Nat) (hx : l.length ≤ 1000) (hm : (d, listOf vs.toArray n) ∈ news ∨ (frag.heap_1 w.params).lookup d = some (listOf vs.toArray n)) (hs : StrsAre vs ys) (hb : ∀ y ∈ ys, y.length ≤ 1000) :
    Ctr w 1 200 news [.str (S l) tx, .ref d] fun v nx => ∃ t, v = .str (S (longG l ys)) t ∧ nx = [] := by
  w_top off
  have hfill : PySem.Challenge.rw_iv0075_01 = PySem.Challenge.rw_iv0075_01 ∧ frag.heap_1 = frag.heap_1 := by
    k_fill
    exact ⟨rfl, rfl⟩
  refine' Ctr.intro [(Str.ofString "word", .str (S l) tx), (Str.ofString "ends", .ref d)] ?k1 ?k2 ?k3 ?k4 ?k5 ?k6 ?k7 ?k8 ?_
  case k1 => k_is
  case k2 => k_is
  case k3 => rfl
  case k4 => exact locs rfl
  case k5 => rfl
  case k6 => rfl
  case k7 => rfl
  case k8 => decide
  intro mean mg mb dp un gd outer A₀ base g L s B F X N T hdp hun
  have hkept : Kept g news d vs n := by
    rcases hm with h | h
    · exact .inr h
    · exact .inl ⟨_, X _ _ h, rfl, n, rfl⟩
  try k_fold
  k_steps
  unfold Hold
  (rename Fr _ _ _ _ => F9); (rename News _ _ _ _ => N9)
  refine For_invVF F9 rfl rfl ?_
  k_steps
  unfold Hold
  refine loopS (σ := List Nat × Tok) (fun _ => news) (fun c => [(Str.ofString "found", .str (S c.1) c.2)]) [] (fun i c => c.1 = (ys.take i).foldl (stepG l) []) ([], _) rfl (fun _ => hkept) F9 N9 (by intro z hz; cases hz with | head => rfl | tail _ h => cases h) rfl ?_ ?_
  · rintro i v ⟨fv, ft⟩ u h tk I oI hv hP hsep F1 N1
    dsimp only at hP
    dsimp only [kstB] at F1
    obtain ⟨y, t, rfl, hy⟩ := hs.item i v hv
    have hyb := hb y (List.mem_of_getElem? hy)
    have hfb : fv.length ≤ 1000 := by
      rw [hP]
      exact longG_len _ _ (Nat.zero_le _) fun z hz => hb z (List.mem_of_mem_take hz)
    obtain ⟨e, rfl⟩ : ∃ e, y = S e := ⟨_, S_of y⟩
    rw [len_S] at hyb
    have hst : (ys.take (i + 1)).foldl (stepG l) [] = stepG l fv (S e) := by
      rw [List.take_add_one, hy, hP]; simp
    k_steps
    all_goals ((rename Fr _ _ _ _ => F8); (rename News _ _ _ _ => N8); (rename List.isSuffixOf _ _ = _ => h2); rw [S_cps] at h2)
    · exact TurnPost.next (e, _) F8 N8 (.head _) (fun p hp => .tail _ hp) hsep (by intro z hz; cases hz with | head => rfl | tail _ h => cases h) (by
        intro z h1 h2 _
        have h3 : z ≠ Str.ofString "found" := h2 _ (.head _)
        simp only [if_neg h1, if_neg h3]
        try rfl) (by rw [hst]; exact (stepG_yes (f := fv) h2 (by omega)).symm)
    · exact TurnPost.next (fv, ft) F8 N8 (.head _) (fun p hp => .tail _ hp) hsep (by intro z hz; cases hz with | head => rfl | tail _ h => cases h) (by
        intro z h1 h2 _
        have h3 : z ≠ Str.ofString "found" := h2 _ (.head _)
        simp only [if_neg h1, if_neg h3]
        try rfl) (by rw [hst]; exact (stepG_no (f := fv) (fun c => absurd c.2 (by omega))).symm)
    · exact TurnPost.next (fv, ft) F8 N8 (.head _) (fun p hp => .tail _ hp) hsep (by intro z hz; cases hz with | head => rfl | tail _ h => cases h) (by
        intro z h1 h2 _
        have h3 : z ≠ Str.ofString "found" := h2 _ (.head _)
        simp only [if_neg h1, if_neg h3]
        try rfl) (by rw [hst]; exact (stepG_no (f := fv) (by rw [h2]; simp)).symm)
  · rintro ⟨fv, ft⟩ u h tk hP F1 N1
    dsimp only at hP
    dsimp only [kstB] at F1
    rw [hs.len_eq, List.take_length] at hP
    k_steps
    exact BodyPost.plain F1 N1 (fun _ h => h) ⟨ft, by rw [hP]; rfl, rfl⟩
end
section
local macro_rules | `(tactic| walk_at "call builtin:len") => `(tactic| ((with_reducible refine op_len ?hb ?_); (case hb => first | omega | (simp only [List.length_take, List.length_append, List.length_cons, List.length_nil, cutTo, cutFrom, List.length_drop] at *; omega)); intro _ _; (try dsimp only)))
local macro_rules | `(tactic| walk_at "subscriptTail Name Name str int") => `(tactic| ((with_reducible refine op_item _ ?hi ?hb ?_); (case hi => omega); (case hb => omega); intro _ _; (try dsimp only)))
local macro_rules | `(tactic| walk_at "subscriptTail Name BinOp str int") => `(tactic| ((with_reducible refine op_itemZ ?h0 ?hi ?hb ?_); (case h0 => first | omega | (simp only [decide_eq_true_eq, beq_iff_eq] at *; omega)); (case hi => first | omega | (simp only [decide_eq_true_eq, beq_iff_eq] at *; omega)); (case hb => omega); intro _ _; (try dsimp only)))
local macro_rules | `(tactic| walk_at "subscriptTail Name Constant str int") => `(tactic| ((with_reducible refine op_itemZ ?h0 ?hi ?hb ?_); (case h0 => first | decide | omega); (case hi => first | omega | (simp only [decide_eq_true_eq, beq_iff_eq] at *; omega)); (case hb => omega); intro _ _; (try dsimp only)))
local macro_rules | `(tactic| walk_at "compareOp In str str") => `(tactic| (with_reducible refine op_in ?_))
local macro_rules | `(tactic| walk_at "compareOp NotIn str str") => `(tactic| (with_reducible refine op_notin ?_))
local macro_rules | `(tactic| walk_at "compareOp Eq str str") => `(tactic| (with_reducible refine op_eq ?_))
local macro_rules | `(tactic| walk_at "call builtin:str.endswith") => `(tactic| ((with_reducible refine SC.endswith ?_); (try rw [endswith_S])))
local macro_rules | `(tactic| walk_at "subscriptTail Name Slice str ref") => `(tactic| ((with_reducible show wpAny _ _ (subscriptTail _ (Expr.Slice none (some _) none _) _ _) _ _ _); (with_reducible rename Fr _ _ _ _ => F'); (with_reducible rename News _ _ _ _ => N'); (refine op_to (s := ⟨_, _, _, _, _⟩) F' N' ?hb ?_); (case hb => omega); intro _ _ _ _ _; (try dsimp only)))
local macro_rules | `(tactic| walk_at "subscriptTail Name Slice str ref") => `(tactic| ((with_reducible show wpAny _ _ (subscriptTail _ (Expr.Slice (some _) none none _) _ _) _ _ _); (with_reducible rename Fr _ _ _ _ => F'); (with_reducible rename News _ _ _ _ => N'); (refine op_from (s := ⟨_, _, _, _, _⟩) F' N' ?hb ?_); (case hb => omega); intro _ _ _ _ _; (try dsimp only)))
local macro_rules | `(tactic| walk_at "subscriptTail Name UnaryOp str int") => `(tactic| ((with_reducible refine op_itemN ?h0 ?hi ?hb ?_); (case h0 => decide); (case hi => first | omega | (simp only [decide_eq_true_eq, beq_iff_eq] at *; omega)); (case hb => omega); intro _ _; (try dsimp only)))
local macro_rules | `(tactic| walk_at "binaryOp Add str str") => `(tactic| ((with_reducible refine op_add ?hb ?hy ?_); (case hb => omega); (case hy => first | decide | (rw [S_cps]; omega)); intro _ _; (try simp only [S_cps]); (try dsimp only)))
local macro_rules | `(tactic| walk_at "inplaceOp Add str str") => `(tactic| ((with_reducible refine op_iadd ?hb ?hy ?_); (case hb => omega); (case hy => first | decide | (rw [S_cps]; omega)); intro _ _; (try simp only [S_cps]); (try dsimp only)))
local macro_rules | `(tactic| walk_at "compareOp NotEq str str") => `(tactic| (with_reducible refine op_ne ?_))
local macro_rules | `(tactic| walk_at "subscriptTail Name UnaryOp str int") => `(tactic| ((with_reducible refine op_itemN ?h0 ?hi ?hb ?_); (case h0 => decide); (case hi => exact pos_of_ne (by assumption)); (case hb => omega); intro _ _; (try dsimp only)))
local macro_rules | `(tactic| walk_at "subscriptTail Name Name str int") => `(tactic| ((with_reducible refine op_itemZ ?h0 ?hi ?hb ?_); (case h0 => omega); (case hi => omega); (case hb => omega); intro _ _; (try dsimp only)))
local macro_rules | `(tactic| walk_at "subscriptTail Name Name str int") => `(tactic| ((with_reducible refine op_item _ ?hi ?hb ?_); (case hi => omega); (case hb => omega); intro _ _; (try dsimp only)))
local macro_rules | `(tactic| walk_at "binaryOp Add str str") => `(tactic| ((with_reducible refine op_add_l ?hb ?hy ?_); (case hb => first | omega | (simp only [cutTo, cutFrom, List.length_take, List.length_drop]; omega)); (case hy => first | decide | (rw [S_cps]; omega)); intro _ _; (try simp only [S_cps]); (try dsimp only)))
local macro_rules | `(tactic| walk_at "binaryOp Add str str") => `(tactic| ((with_reducible refine op_add ?hb ?hy ?_); (case hb => first | omega | (simp only [cutTo, cutFrom, List.length_take, List.length_drop]; omega)); (case hy => first | decide | (rw [S_cps]; first | omega | (simp only [List.length_cons, List.length_nil]; omega))); intro _ _; (try simp only [S_cps]); (try dsimp only)))
local macro_rules | `(tactic| walk_at "exec For Name Name cons nil") => `(tactic| refine Hold.mk ?_)
local macro_rules | `(tactic| walk_at "pyIter str") => `(tactic| refine Hold.mk ?_)
local macro_rules | `(tactic| walk_at "pyIter ref") => `(tactic| refine Hold.mk ?_)
local macro_rules | `(tactic| walk_at "eval ListComp") => `(tactic| refine Hold.mk ?_)
local macro_rules | `(tactic| walk_at "CompSrcT") => `(tactic| refine Hold.mk ?_)
local macro_rules | `(tactic| walk_at "CompSrc") => `(tactic| refine Hold.mk ?_)
local macro_rules | `(tactic| k_all) => `(tactic| assumption)
local macro_rules | `(tactic| walk_at "call ref") => `(tactic| ((with_reducible show wpAny _ _ (call (Value.ref 200) _) _ _ _); k_dflt (refine' Ctr.use (lawlong_ctr _ _ _ _ _ _ _ _ ?hx ?hm ?hs ?hb) ?k1 ?k2 ?k3 ?k4 ?k5 ?k6 ?k7 ?k8 ?_; (case k1 => k_asm); (case k2 => k_asm); (case k3 => k_asm); (case k4 => k_asm); (case k5 => k_asm); (case k6 => rfl); (case hs => assumption); (case hm => refine Or.inl ?_; exact List.Mem.head _); (case hb => assumption)); (case hx => omega); (case k7 => first | exact room (by assumption) (by decide) | decide | omega); (case k8 => first | exact roomU (by assumption) (by decide) | decide | omega); (intro v9 nx9 h9 tk9 hP9 hO9 F9 N9); (obtain ⟨t9, hv9, hn9⟩ := hP9); (subst hv9); (subst hn9); (try dsimp only); (try simp only [List.nil_append, List.cons_append] at N9)))
local macro_rules | `(tactic| walk_at "call ref") => `(tactic| ((with_reducible show wpAny _ _ (call (Value.ref 179) _) _ _ _); k_dflt (refine' Ctr.use (measure_ctr _ _ _ _ ?hx) ?k1 ?k2 ?k3 ?k4 ?k5 ?k6 ?k7 ?k8 ?_; (case k1 => k_asm); (case k2 => k_asm); (case k3 => k_asm); (case k4 => k_asm); (case k5 => k_asm); (case k6 => rfl)); (case hx => first | omega | (simp only [cutTo, List.length_take]; omega)); (case k7 => first | exact room (by assumption) (by decide) | decide | omega); (case k8 => first | exact roomU (by assumption) (by decide) | decide | omega); (intro v9 nx9 h9 tk9 hP9 hO9 F9 N9); (obtain ⟨t9, hv9, hn9⟩ := hP9); (subst hv9); (subst hn9); (try dsimp only); (try simp only [List.nil_append, List.cons_append] at N9)))
local macro_rules | `(tactic| walk_at "subscriptTail Name Constant ref int") => `(tactic| (k_dflt (refine' item_tupleT ?t ?a ?b ?c ?d ?_; (case t => exact Fr.tup (by assumption) (by assumption)); (case a => decide); (case b => decide); (case c => rfl); (case d => rfl))))
inductive PairsAt (K : Frag) : List Value → List (Str × Str) → Prop
  | nil : PairsAt K [] []
  | cons {a : Addr} {k v : Str} {t u : Tok} {n : Nat} {vs : List Value} {ps : List (Str × Str)} : K.lookup a = some ({ cls := .type "tuple", data := .seq #[.str k t, .str v u] n } : Obj) → PairsAt K vs ps → PairsAt K (.ref a :: vs) ((k, v) :: ps)
theorem PairsAt.len {K : Frag} : ∀ {vs : List Value} {ps : List (Str × Str)}, PairsAt K vs ps → vs.length = ps.length
  | _, _, .nil => rfl
  | _, _, .cons _ h => congrArg (· + 1) h.len
theorem PairsAt.at {K : Frag} : ∀ {vs : List Value} {ps : List (Str × Str)}, PairsAt K vs ps → ∀ {i : Nat} {v : Value}, vs[i]? = some v → ∃ (a : Addr) (p : Str × Str) (t u : Tok) (n : Nat), v = .ref a ∧ ps[i]? = some p ∧ K.lookup a = some ({ cls := .type "tuple", data := .seq #[.str p.1 t, .str p.2 u] n } : Obj)
  | _, _, .nil, i, v, h => by simp at h
  | _, _, .cons hk h, 0, v, e => by
    simp only [List.getElem?_cons_zero, Option.some.injEq] at e
    exact ⟨_, _, _, _, _, e.symm, rfl, hk⟩
  | _, _, .cons hk h, i + 1, v, e => by
    simp only [List.getElem?_cons_succ] at e ⊢
    exact h.at e
noncomputable def pickF (prs : List (Str × Str)) (e : List Nat) : List (Str × Str) := prs.filter (fun p => p.1.cps.toList == e)
noncomputable def lawStepF (l : List Nat) (prs : List (Str × Str)) : List Nat :=
  let e := longG l (prs.map Prod.fst)
  let left := cutTo l ((l.length : Int) - (e.length : Int))
  if e = [] ∨ measureF left < 1 then l else left ++ (((pickF prs e).map Prod.snd).headD (S [])).cps.toList
theorem strEq (x : Str) (e : List Nat) : (x == S e) = (x.cps.toList == e) := by
  rw [S_of x, S_beq, S_cps]
theorem longG_memA {l : List Nat} : ∀ (ys : List Str) (f : List Nat), ys.foldl (stepG l) f = f ∨ ∃ y ∈ ys, y.cps.toList = ys.foldl (stepG l) f
  | [], f => .inl rfl
  | y :: ys, f => by
    rw [List.foldl_cons]
    rcases longG_memA ys (stepG l f y) with h | ⟨z, hz, h⟩
    · rw [h]
      unfold stepG
      split
      · exact .inr ⟨y, .head _, rfl⟩
      · exact .inl rfl
    · exact .inr ⟨z, .tail _ hz, h⟩
theorem pick_some {l : List Nat} {prs : List (Str × Str)} (h : longG l (prs.map Prod.fst) ≠ []) : ∃ q rest, pickF prs (longG l (prs.map Prod.fst)) = q :: rest ∧ q ∈ prs := by
  rcases longG_memA (l := l) (prs.map Prod.fst) [] with h1 | ⟨y, hy, h1⟩
  · exact absurd h1 h
  · obtain ⟨p, hp, rfl⟩ := List.mem_map.mp hy
    have hm : p ∈ pickF prs (longG l (prs.map Prod.fst)) := List.mem_filter.mpr ⟨hp, by rw [beq_iff_eq]; exact h1⟩
    cases hc : pickF prs (longG l (prs.map Prod.fst)) with
    | nil => rw [hc] at hm; cases hm
    | cons q rest => exact ⟨q, rest, rfl, (List.mem_filter.mp (hc ▸ List.mem_cons_self : q ∈ pickF prs _)).1⟩
theorem pick_snoc (prs : List (Str × Str)) (e : List Nat) {i : Nat} {p : Str × Str} (h : prs[i]? = some p) : pickF (prs.take (i + 1)) e = pickF (prs.take i) e ++ (if p.1.cps.toList == e then [p] else []) := by
  unfold pickF
  rw [List.take_add_one, h, List.filter_append]
  simp [List.filter_cons]
local macro_rules | `(tactic| walk_at "binaryOp Add str str") => `(tactic| ((with_reducible refine op_add ?hb ?hy ?_); (case hb => simp only [cutTo, List.length_take]; omega); (case hy => assumption); intro _ _; (try simp only [S_cps]); (try dsimp only)))
theorem lawstep_ctr (w : World) (news : List (Addr × Obj)) (l : List Nat) (tx : Tok) (d : Addr) (vs : List Value) (prs : List (Str × Str)) (n : Nat) (hx : l.length ≤ 900) (hm : (frag.heap_1 w.params).lookup d = some (listOf vs.toArray n)) (hs : PairsAt (frag.heap_1 w.params) vs prs) (hb : ∀ p ∈ prs, p.1.length ≤ 1000 ∧ p.2.length ≤ 100) (hlen : prs.length ≤ 1000) :
    Ctr w 3 205 news [.str (S l) tx, .ref d] fun v nx => ∃ t, v = .str (S (lawStepF l prs)) t ∧ nx = [] := by
  w_top off
  have hfill : PySem.Challenge.rw_iv0075_01 = PySem.Challenge.rw_iv0075_01 ∧ frag.heap_1 = frag.heap_1 := by
    k_fill
    exact ⟨rfl, rfl⟩
  refine' Ctr.introC [(Str.ofString "word", .str (S l) tx), (Str.ofString "pairs", .ref d)] ?k1 ?k2 ?k3 ?k4 ?k4b ?k5 ?k6 ?k7 ?_
  case k1 => k_is
  case k2 => k_is
  case k3 => rfl
  case k4 => rfl
  case k4b => decide +kernel
  case k5 => rfl
  case k6 => rfl
  case k7 => rfl
  intro mean mg mb dp un gd outer A₀ base g L s cells B F X N Y l1 T hdp hun
  k_cells Y
  simp only [List.cons_append, List.nil_append] at N
  have hcell : ∀ p ∈ news, p.1 ≠ L + 1 := fun p hp => Nat.ne_of_lt (Nat.lt_succ_of_lt (l1 p hp))
  have hbk : ∀ y ∈ prs.map Prod.fst, y.length ≤ 1000 := fun y hy => by
    obtain ⟨p, hp, rfl⟩ := List.mem_map.mp hy
    exact (hb p hp).1
  have hgl : (longG l (List.map Prod.fst prs)).length ≤ 1000 := longG_len _ _ (Nat.zero_le _) hbk
  have hL0 : g.IsList d vs.toArray := ⟨_, X _ _ hm, rfl, n, rfl⟩
  try k_fold
  k_steps
  unfold Hold
  (rename Fr _ _ _ _ => F9); (rename News _ _ _ _ => N9)
  refine LCg.ListComp_U (F₀ := F9) (by with_unfolding_all rfl) (by decide) (by rfl) (by decide) (by rfl) ?_
  k_steps
  unfold Hold
  (rename Fr _ _ _ _ => F8); (rename News _ _ _ _ => N8)
  refine LCg.CompSrc.base rfl F8 N8 hL0 (by rw [sizeLine_eq, List.size_toArray, hs.len]; omega) ?_
  intro g'
  rw [List.size_toArray]
  refine rest_ind (fun i ys => StrsAre ys ((prs.take i).map Prod.fst)) StrsAre.nil ?_ ?_
  · intro ys hys D h tk F7 N7 off
    rw [hs.len, List.take_length] at hys
    have hne : @Ne Nat (L + 1) D := off.1
    k_steps
    · (rename Fr _ _ _ _ => F6); (rename News _ _ _ _ => N6); (rename (longG _ _ == _) = _ => ha)
      have h0 : longG l (List.map Prod.fst prs) = [] := beq_iff_eq.mp ha
      exact BodyPost.plain F6 N6 (fun p hp => .tail _ (.tail _ hp)) ⟨tx, by unfold lawStepF; rw [if_pos (.inl h0)], rfl⟩
    · (rename Fr _ _ _ _ => F6); (rename News _ _ _ _ => N6); (rename (_ : Int) < 1 => ha)
      have h1 : measureF (cutTo l (↑l.length - ↑(longG l (List.map Prod.fst prs)).length)) < 1 := by omega
      exact BodyPost.plain F6 N6 (fun p hp => .tail _ (.tail _ hp)) ⟨tx, by unfold lawStepF; rw [if_pos (.inr h1)], rfl⟩
    · (rename Fr _ _ _ _ => F6); (rename News _ _ _ _ => N6); (rename ¬ (_ : Int) < 1 => ha); (rename (longG _ _ == _) = _ => hb')
      have h0 : longG l (List.map Prod.fst prs) ≠ [] := fun e => by rw [e] at hb'; exact absurd hb' (by decide)
      have h1 : ¬ measureF (cutTo l (↑l.length - ↑(longG l (List.map Prod.fst prs)).length)) < 1 := by omega
      obtain ⟨q, rest, hq, hqm⟩ := pick_some h0
      unfold Hold
      refine LCt.ListComp_T (F₀ := F6) (by with_unfolding_all rfl) (by decide) (by rfl) (by decide) (by rfl) ?_
      k_steps
      unfold Hold
      (rename Fr _ _ _ _ => F5); (rename News _ _ _ _ => N5)
      refine LCt.CompSrcT.base rfl F5 N5 hL0 (by rw [sizeLine_eq, List.size_toArray, hs.len]; omega) ?_
      intro g''
      rw [List.size_toArray]
      refine restT_ind (fun i ys2 => StrsAre ys2 ((pickF (prs.take i) (longG l (List.map Prod.fst prs))).map Prod.snd)) StrsAre.nil ?_ ?_
      · intro ys2 hys2 D2 h2 tk2 F4 N4 off2
        rw [hs.len, List.take_length, hq, List.map_cons] at hys2
        obtain ⟨t2, vs2, rfl, hvs2⟩ := hys2.cons_inv
        have hq2 : q.2.cps.toList.length ≤ 100000 := by
          have h9 := (hb q hqm).2
          have e9 : q.2.length = q.2.cps.toList.length := by simp [Str.length]
          omega
        k_steps
        (rename Fr _ _ _ _ => F3); (rename News _ _ _ _ => N3)
        have hfin : lawStepF l prs = cutTo l (↑l.length - ↑(longG l (List.map Prod.fst prs)).length) ++ q.2.cps.toList := by
          unfold lawStepF
          rw [if_neg (fun c => c.elim h0 h1), hq]; rfl
        exact BodyPost.plain F3 N3 (fun p hp => .tail _ (.tail _ (.tail _ hp))) ⟨_, by rw [hfin], rfl⟩
      · rintro i ys2 hi hj v I oI C oC D m₂ h tk E' hv hC hx2 F7 N7 off ne
        obtain ⟨a, p, t, u, n', rfl, hp, hka⟩ := hs.at (by simpa using hv)
        have hT : IsTup g a #[.str p.1 t, .str p.2 u] := ⟨_, X _ _ hka, rfl, n', rfl⟩
        k_steps
        · rename (_ == S _) = true => ha
          rw [strEq] at ha
          refine LCg.CompEnd.intro F7 N7 _ (fun p hp => hp) off (.inl hL0) ⟨rfl, ?_⟩
          rw [pick_snoc prs _ hp, ha, if_pos rfl, List.map_append]
          exact hj.append' (.cons _ _ .nil)
        · rename (_ == S _) = false => ha
          rw [strEq] at ha
          refine LCg.CompEnd.intro F7 N7 _ (fun p hp => hp) off (.inl hL0) ⟨rfl, ?_⟩
          rw [pick_snoc prs _ hp, ha, if_neg (by decide), List.append_nil]
          exact hj
  · rintro i ys hi hj v I oI C oC D m₂ h tk E' hv hC hx2 F7 N7 off ne
    obtain ⟨a, p, t, u, n', rfl, hp, hka⟩ := hs.at (by simpa using hv)
    have hT : IsTup g a #[.str p.1 t, .str p.2 u] := ⟨_, X _ _ hka, rfl, n', rfl⟩
    k_steps
    refine LCg.CompEnd.intro F7 N7 _ (fun p hp => hp) off (.inl hL0) ⟨rfl, ?_⟩
    rw [List.take_add_one, hp, List.map_append]
    exact hj.append' (.cons _ _ .nil)
end
section
/-- where a block of statements ends: the frame knows `ps`, the ledger keeps `news` -/
noncomputable def StP (g : Heap) (L : Addr) (news : List (Addr × Obj)) (s : Shared) (ps : List (Str × Value)) (s' : Shared) : Prop :=
  ∃ (h' : Heap) (tk : Nat) (u : Str → Option Value), s' = { s with heap := h', toks := tk } ∧ Fr g L h' (kstB u ps) ∧ News g L h' news
theorem StP.mk {g h' : Heap} {L : Addr} {news news' : List (Addr × Obj)} {s : Shared} {ps : List (Str × Value)} {m' : Str → Option Value} {tk : Nat}
    (F : Fr g L h' m') (N : News g L h' news') (hs : ∀ p ∈ news, p ∈ news') (hk : ∀ p ∈ ps, m' p.1 = some p.2) : StP g L news s ps { s with heap := h', toks := tk } := by
  refine ⟨h', tk, m', rfl, ?_, fun p hp => N p (hs p hp)⟩
  have e : kstB m' ps = m' := by
    funext z
    exact kstB_eq hk fun _ => rfl
  rw [e]; exact F
theorem StP.trans {g : Heap} {L : Addr} {news : List (Addr × Obj)} {s s' : Shared} {h : Heap} {tk : Nat} {ps : List (Str × Value)} (h1 : StP g L news { s with heap := h, toks := tk } ps s') : StP g L news s ps s' := by
  obtain ⟨h', tk', u, rfl, F, N⟩ := h1
  exact ⟨h', tk', u, rfl, F, N⟩
section
variable {M : Model} {A : Around} {E : Value → Shared → Prop} {s : Shared} {env : Env} {st st₂ : Stmt} {rest : List Stmt} {Q : Flow → Shared → Prop}
theorem cut1 (P : Shared → Prop) (h1 : wpAny M A (exec st env) (fun fl s' => match fl with | .next => P s' | fl => Q fl s') E s) (h2 : ∀ s', P s' → wpAny M A (execs rest env) Q E s') :
    wpAny M A (execs (st :: rest) env) Q E s := by
  refine wpAny_execs_cons (wpAny_mono h1 (fun fl s' h => ?_) fun _ _ e => e)
  cases fl with
  | next => exact h2 s' h
  | _ => exact h
theorem cut2 (P : Shared → Prop) (h1 : wpAny M A (exec st env) (fun fl s' => match fl with
      | .next => wpAny M A (exec st₂ env) (fun fl s' => match fl with | .next => P s' | fl => Q fl s') E s'
      | fl => Q fl s') E s) (h2 : ∀ s', P s' → wpAny M A (execs rest env) Q E s') :
    wpAny M A (execs (st :: st₂ :: rest) env) Q E s := by
  refine wpAny_execs_cons (wpAny_mono h1 (fun fl s' h => ?_) fun _ _ e => e)
  cases fl with
  | next => exact cut1 P h h2
  | _ => exact h
end
theorem all1 {m : Str → Option Value} {a : Str} {v : Value} (h : m a = some v) : ∀ p ∈ [(a, v)], m p.1 = some p.2 := fun p hp => by
  rw [List.mem_singleton.mp hp]; exact h
theorem all2 {m : Str → Option Value} {a b : Str} {v w : Value} (h : m a = some v) (h2 : m b = some w) : ∀ p ∈ [(a, v), (b, w)], m p.1 = some p.2 := fun p hp => by
  rcases List.mem_cons.mp hp with rfl | hp
  · exact h
  · exact all1 h2 p hp
theorem all3 {m : Str → Option Value} {a b c : Str} {v w x : Value} (h : m a = some v) (h2 : m b = some w) (h3 : m c = some x) : ∀ p ∈ [(a, v), (b, w), (c, x)], m p.1 = some p.2 := fun p hp => by
  rcases List.mem_cons.mp hp with rfl | hp
  · exact h
  · exact all2 h2 h3 p hp
theorem StP.mk1 {g h' : Heap} {L : Addr} {news news' : List (Addr × Obj)} {s : Shared} {m' : Str → Option Value} {tk : Nat} {a : Str} {v : Value}
    (F : Fr g L h' m') (N : News g L h' news') (hs : ∀ p ∈ news, p ∈ news') (h : m' a = some v) : StP g L news s [(a, v)] { s with heap := h', toks := tk } := StP.mk F N hs (all1 h)
theorem StP.mk2 {g h' : Heap} {L : Addr} {news news' : List (Addr × Obj)} {s : Shared} {m' : Str → Option Value} {tk : Nat} {a b : Str} {v w : Value}
    (F : Fr g L h' m') (N : News g L h' news') (hs : ∀ p ∈ news, p ∈ news') (h : m' a = some v) (h2 : m' b = some w) : StP g L news s [(a, v), (b, w)] { s with heap := h', toks := tk } := StP.mk F N hs (all2 h h2)
theorem StP.mk3 {g h' : Heap} {L : Addr} {news news' : List (Addr × Obj)} {s : Shared} {m' : Str → Option Value} {tk : Nat} {a b c : Str} {v w x : Value}
    (F : Fr g L h' m') (N : News g L h' news') (hs : ∀ p ∈ news, p ∈ news') (h : m' a = some v) (h2 : m' b = some w) (h3 : m' c = some x) : StP g L news s [(a, v), (b, w), (c, x)] { s with heap := h', toks := tk } := StP.mk F N hs (all3 h h2 h3)
end
section
local macro_rules | `(tactic| walk_at "call builtin:len") => `(tactic| ((with_reducible refine op_len ?hb ?_); (case hb => first | omega | (simp only [List.length_take, List.length_append, List.length_cons, List.length_nil, cutTo, cutFrom, List.length_drop] at *; omega)); intro _ _; (try dsimp only)))
local macro_rules | `(tactic| walk_at "subscriptTail Name Name str int") => `(tactic| ((with_reducible refine op_item _ ?hi ?hb ?_); (case hi => omega); (case hb => omega); intro _ _; (try dsimp only)))
local macro_rules | `(tactic| walk_at "subscriptTail Name BinOp str int") => `(tactic| ((with_reducible refine op_itemZ ?h0 ?hi ?hb ?_); (case h0 => first | omega | (simp only [decide_eq_true_eq, beq_iff_eq] at *; omega)); (case hi => first | omega | (simp only [decide_eq_true_eq, beq_iff_eq] at *; omega)); (case hb => omega); intro _ _; (try dsimp only)))
local macro_rules | `(tactic| walk_at "subscriptTail Name Constant str int") => `(tactic| ((with_reducible refine op_itemZ ?h0 ?hi ?hb ?_); (case h0 => first | decide | omega); (case hi => first | omega | (simp only [decide_eq_true_eq, beq_iff_eq] at *; omega)); (case hb => omega); intro _ _; (try dsimp only)))
local macro_rules | `(tactic| walk_at "compareOp In str str") => `(tactic| (with_reducible refine op_in ?_))
local macro_rules | `(tactic| walk_at "compareOp NotIn str str") => `(tactic| (with_reducible refine op_notin ?_))
local macro_rules | `(tactic| walk_at "compareOp Eq str str") => `(tactic| (with_reducible refine op_eq ?_))
local macro_rules | `(tactic| walk_at "call builtin:str.endswith") => `(tactic| ((with_reducible refine SC.endswith ?_); (try rw [endswith_S])))
local macro_rules | `(tactic| walk_at "subscriptTail Name Slice str ref") => `(tactic| ((with_reducible show wpAny _ _ (subscriptTail _ (Expr.Slice none (some _) none _) _ _) _ _ _); (with_reducible rename Fr _ _ _ _ => F'); (with_reducible rename News _ _ _ _ => N'); (refine op_to (s := ⟨_, _, _, _, _⟩) F' N' ?hb ?_); (case hb => omega); intro _ _ _ _ _; (try dsimp only)))
local macro_rules | `(tactic| walk_at "subscriptTail Name Slice str ref") => `(tactic| ((with_reducible show wpAny _ _ (subscriptTail _ (Expr.Slice (some _) none none _) _ _) _ _ _); (with_reducible rename Fr _ _ _ _ => F'); (with_reducible rename News _ _ _ _ => N'); (refine op_from (s := ⟨_, _, _, _, _⟩) F' N' ?hb ?_); (case hb => omega); intro _ _ _ _ _; (try dsimp only)))
local macro_rules | `(tactic| walk_at "subscriptTail Name UnaryOp str int") => `(tactic| ((with_reducible refine op_itemN ?h0 ?hi ?hb ?_); (case h0 => decide); (case hi => first | omega | (simp only [decide_eq_true_eq, beq_iff_eq] at *; omega)); (case hb => omega); intro _ _; (try dsimp only)))
local macro_rules | `(tactic| walk_at "binaryOp Add str str") => `(tactic| ((with_reducible refine op_add ?hb ?hy ?_); (case hb => omega); (case hy => first | decide | (rw [S_cps]; omega)); intro _ _; (try simp only [S_cps]); (try dsimp only)))
local macro_rules | `(tactic| walk_at "inplaceOp Add str str") => `(tactic| ((with_reducible refine op_iadd ?hb ?hy ?_); (case hb => omega); (case hy => first | decide | (rw [S_cps]; omega)); intro _ _; (try simp only [S_cps]); (try dsimp only)))
local macro_rules | `(tactic| walk_at "compareOp NotEq str str") => `(tactic| (with_reducible refine op_ne ?_))
local macro_rules | `(tactic| walk_at "subscriptTail Name UnaryOp str int") => `(tactic| ((with_reducible refine op_itemN ?h0 ?hi ?hb ?_); (case h0 => decide); (case hi => exact pos_of_ne (by assumption)); (case hb => omega); intro _ _; (try dsimp only)))
local macro_rules | `(tactic| walk_at "subscriptTail Name Name str int") => `(tactic| ((with_reducible refine op_itemZ ?h0 ?hi ?hb ?_); (case h0 => omega); (case hi => omega); (case hb => omega); intro _ _; (try dsimp only)))
local macro_rules | `(tactic| walk_at "subscriptTail Name Name str int") => `(tactic| ((with_reducible refine op_item _ ?hi ?hb ?_); (case hi => omega); (case hb => omega); intro _ _; (try dsimp only)))
local macro_rules | `(tactic| walk_at "binaryOp Add str str") => `(tactic| ((with_reducible refine op_add_l ?hb ?hy ?_); (case hb => first | omega | (simp only [cutTo, cutFrom, List.length_take, List.length_drop]; omega)); (case hy => first | decide | (rw [S_cps]; omega)); intro _ _; (try simp only [S_cps]); (try dsimp only)))
local macro_rules | `(tactic| walk_at "binaryOp Add str str") => `(tactic| ((with_reducible refine op_add ?hb ?hy ?_); (case hb => first | omega | (simp only [cutTo, cutFrom, List.length_take, List.length_drop]; omega)); (case hy => first | decide | (rw [S_cps]; first | omega | (simp only [List.length_cons, List.length_nil]; omega))); intro _ _; (try simp only [S_cps]); (try dsimp only)))
noncomputable def second : List (Str × Str) := [(Str.ofString "ational", Str.ofString "ate"), (Str.ofString "tional", Str.ofString "tion"), (Str.ofString "enci", Str.ofString "ence"), (Str.ofString "anci", Str.ofString "ance"), (Str.ofString "izer", Str.ofString "ize"), (Str.ofString "bli", Str.ofString "ble"), (Str.ofString "alli", Str.ofString "al"), (Str.ofString "entli", Str.ofString "ent"), (Str.ofString "eli", Str.ofString "e"), (Str.ofString "ousli", Str.ofString "ous"), (Str.ofString "ization", Str.ofString "ize"), (Str.ofString "ation", Str.ofString "ate"), (Str.ofString "ator", Str.ofString "ate"), (Str.ofString "alism", Str.ofString "al"), (Str.ofString "iveness", Str.ofString "ive"), (Str.ofString "fulness", Str.ofString "ful"), (Str.ofString "ousness", Str.ofString "ous"), (Str.ofString "aliti", Str.ofString "al"), (Str.ofString "iviti", Str.ofString "ive"), (Str.ofString "biliti", Str.ofString "ble"), (Str.ofString "logi", Str.ofString "log")]
noncomputable def third : List (Str × Str) := [(Str.ofString "icate", Str.ofString "ic"), (Str.ofString "ative", Str.ofString ""), (Str.ofString "alize", Str.ofString "al"), (Str.ofString "iciti", Str.ofString "ic"), (Str.ofString "ical", Str.ofString "ic"), (Str.ofString "ful", Str.ofString ""), (Str.ofString "ness", Str.ofString "")]
noncomputable def sfx (e : Str) (l : List Nat) : Bool := e.cps.toList.isSuffixOf l
noncomputable def tabOf (prs : List (Str × Str)) (y : Str) : List Nat := (((pickF prs y.cps.toList).map Prod.snd).headD (S [])).cps.toList
noncomputable def st3 (l : List Nat) : List Nat :=
  if (Str.ofString "s").cps.toList.isSuffixOf l then
    (if (Str.ofString "sses").cps.toList.isSuffixOf l then cutTo l (-2)
     else if (Str.ofString "ies").cps.toList.isSuffixOf l then cutTo l (-2)
     else if [l.getD (l.length - 2) 0] == (Str.ofString "s").cps.toList then l else cutTo l (-1))
  else l
noncomputable def st4 (l : List Nat) : List Nat :=
  if (Str.ofString "eed").cps.toList.isSuffixOf l then (if mgr0F (cutTo l (-3)) then cutTo l (-1) else l)
  else match edF l with
    | none => l
    | some (a, _) => if svF a then (if abiF a then a ++ (Str.ofString "e").cps.toList else if s1bF a then cutTo a (-1) else if cvF a then a ++ (Str.ofString "e").cps.toList else a) else l
noncomputable def st5 (l : List Nat) : List Nat :=
  if (Str.ofString "y").cps.toList.isSuffixOf l then (if svF (cutTo l (-1)) then cutTo l (-1) ++ (Str.ofString "i").cps.toList else l) else l
noncomputable def stP (ends : List Str) (prs : List (Str × Str)) (l : List Nat) : List Nat :=
  match longF l ends with
  | none => l
  | some (a, y) => if mgr0F a then a ++ tabOf prs y else l
noncomputable def st10 (l : List Nat) : List Nat :=
  match longF l ends4 with
  | some (a, _) => if mgr1F a then a else l
  | none => match s42F l with
    | none => l
    | some a => if mgr1F (a ++ [l.getD (l.length - 4) 0]) then a ++ [l.getD (l.length - 4) 0] else l
noncomputable def st12 (l : List Nat) : List Nat :=
  match s5F l with
  | none => l
  | some a => if mgr1F a then a else if meq1F a then (if cvF a then l else a) else l
noncomputable def st14 (l : List Nat) : List Nat := if (Str.ofString "ll").cps.toList.isSuffixOf l then (if mgr1F l then cutTo l (-1) else l) else l
noncomputable def st2 (b : Bool) (l : List Nat) : List Nat := if b then (Str.ofString "Y").cps.toList ++ cutFrom l 1 else l
noncomputable def st15 (b : Bool) (l : List Nat) : List Nat := if b then (Str.ofString "y").cps.toList ++ cutFrom l 1 else l
noncomputable def firstY (l : List Nat) : Bool := [l.getD 0 0] == (Str.ofString "y").cps.toList
noncomputable def stemF (l : List Nat) : List Nat :=
  if l.length < 3 then l
  else st15 (firstY l) (st14 (st12 (st10 (stP ends3 third (stP ends2 second (st5 (st4 (st3 (st2 (firstY l) l)))))))))
theorem cutTo_le (l : List Nat) (k : Int) : (cutTo l k).length ≤ l.length := by
  unfold cutTo; rw [List.length_take]; omega
theorem cutFrom_le (l : List Nat) (k : Int) : (cutFrom l k).length ≤ l.length := by
  unfold cutFrom; rw [List.length_drop]; omega
theorem st2_len {b : Bool} {l : List Nat} (h : 1 ≤ l.length) : (st2 b l).length = l.length := by
  unfold st2 cutFrom
  cases b
  · rfl
  · rw [if_pos rfl, List.length_append, List.length_drop, show (Str.ofString "Y").cps.toList.length = 1 from rfl]
    simp only [show ¬ ((1 : Int) < 0) by decide, if_false, Int.toNat_one]
    omega
theorem st3_le (l : List Nat) : (st3 l).length ≤ l.length := by
  unfold st3
  have h := cutTo_le l
  repeat' split
  all_goals first | exact h _ | exact Nat.le_refl _
theorem edF_le {l a : List Nat} {y : Str} (h : edF l = some (a, y)) : a.length ≤ l.length := by
  unfold edF at h
  split at h
  · cases h; exact cutTo_le _ _
  · split at h
    · cases h; exact cutTo_le _ _
    · cases h
theorem st4_le (l : List Nat) : (st4 l).length ≤ l.length + 1 := by
  unfold st4
  have h := cutTo_le
  split
  · split
    · exact Nat.le_succ_of_le (h _ _)
    · exact Nat.le_succ _
  · split
    · exact Nat.le_succ _
    · rename_i a y he
      have h2 := edF_le he
      split
      · split
        · rw [List.length_append]; exact Nat.add_le_add h2 (Nat.le_refl 1)
        · split
          · exact Nat.le_succ_of_le (Nat.le_trans (h _ _) h2)
          · split
            · rw [List.length_append]; exact Nat.add_le_add h2 (Nat.le_refl 1)
            · exact Nat.le_succ_of_le h2
      · exact Nat.le_succ _
theorem st5_le (l : List Nat) : (st5 l).length ≤ l.length + 1 := by
  unfold st5
  split
  · split
    · rw [List.length_append]; exact Nat.add_le_add (cutTo_le _ _) (Nat.le_refl 1)
    · exact Nat.le_succ _
  · exact Nat.le_succ _
theorem longF_le {l : List Nat} : ∀ (ys : List Str) (r : Option (List Nat × Str)), (∀ q, r = some q → q.1.length ≤ l.length) → ∀ q, ys.foldl (stepL l) r = some q → q.1.length ≤ l.length
  | [], _, h, q, e => h q e
  | y :: ys, r, h, q, e => by
    rw [List.foldl_cons] at e
    refine longF_le ys _ (fun p hp => ?_) q e
    unfold stepL at hp
    split at hp
    · cases hp; exact cutTo_le _ _
    · exact h p hp
theorem longF_leA {l : List Nat} {ends : List Str} {q : List Nat × Str} (h : longF l ends = some q) : q.1.length ≤ l.length := longF_le ends none (fun _ hq => by cases hq) _ h
theorem tabOf_le {prs : List (Str × Str)} {n : Nat} (h : ∀ p ∈ prs, p.2.length ≤ n) (y : Str) : (tabOf prs y).length ≤ n := by
  unfold tabOf
  cases hc : pickF prs y.cps.toList with
  | nil => exact Nat.zero_le _
  | cons q r =>
    have hq : q ∈ pickF prs y.cps.toList := by rw [hc]; exact List.mem_cons_self
    have h2 := h q (List.mem_filter.mp hq).1
    have e : q.2.length = q.2.cps.toList.length := by simp [Str.length]
    show q.2.cps.toList.length ≤ n
    omega
theorem stP_le {ends : List Str} {prs : List (Str × Str)} {n : Nat} (h : ∀ p ∈ prs, p.2.length ≤ n) (l : List Nat) : (stP ends prs l).length ≤ l.length + n := by
  unfold stP
  split
  · exact Nat.le_add_right _ _
  · rename_i a y he
    have h2 : a.length ≤ l.length := longF_le ends none (fun _ hq => by cases hq) _ he
    split
    · rw [List.length_append]; exact Nat.add_le_add h2 (tabOf_le h y)
    · exact Nat.le_add_right _ _
theorem s42F_le {l a : List Nat} (h : s42F l = some a) : a.length ≤ l.length := by
  unfold s42F at h
  split at h
  · cases h; exact cutTo_le _ _
  · cases h
theorem s5F_le {l a : List Nat} (h : s5F l = some a) : a.length ≤ l.length := by
  unfold s5F at h
  split at h
  · cases h; exact cutTo_le _ _
  · cases h
theorem st10_le (l : List Nat) : (st10 l).length ≤ l.length + 1 := by
  unfold st10
  split
  · rename_i a y he
    have h2 : a.length ≤ l.length := longF_le ends4 none (fun _ hq => by cases hq) _ he
    split
    · exact Nat.le_succ_of_le h2
    · exact Nat.le_succ _
  · split
    · exact Nat.le_succ _
    · rename_i a he
      have h2 := s42F_le he
      split
      · rw [List.length_append]; exact Nat.add_le_add h2 (Nat.le_refl 1)
      · exact Nat.le_succ _
theorem st12_le (l : List Nat) : (st12 l).length ≤ l.length := by
  unfold st12
  split
  · exact Nat.le_refl _
  · rename_i a he
    have h2 := s5F_le he
    repeat' split
    all_goals first | exact h2 | exact Nat.le_refl _
theorem st14_le (l : List Nat) : (st14 l).length ≤ l.length := by
  unfold st14
  repeat' split
  all_goals first | exact cutTo_le _ _ | exact Nat.le_refl _
noncomputable def StW (g : Heap) (L : Addr) (news : List (Addr × Obj)) (s : Shared) (y : List Nat) (b : Bool) (s' : Shared) : Prop := ∃ t, StP g L news s [(Str.ofString "w", .str (S y) t), (Str.ofString "first_is_y", .bool b)] s'
noncomputable def StC (p : Prop) (g : Heap) (L : Addr) (news : List (Addr × Obj)) (s : Shared) (ps : List (Str × Value)) (s' : Shared) : Prop := p ∧ StP g L news s ps s'
theorem StP.w {g h' : Heap} {L : Addr} {news news' : List (Addr × Obj)} {s : Shared} {m' : Str → Option Value} {tk : Nat} {x y : List Nat} {t : Tok} {b : Bool}
    (F : Fr g L h' m') (N : News g L h' news') (hs : ∀ p ∈ news, p ∈ news') (hw : m' (Str.ofString "w") = some (.str (S x) t)) (hb : m' (Str.ofString "first_is_y") = some (.bool b)) (e : y = x) :
    StW g L news s y b { s with heap := h', toks := tk } := ⟨t, by rw [e]; exact StP.mk F N hs (all2 hw hb)⟩
local macro_rules | `(tactic| walk_at "subscriptTail Name Name ref str") => `(tactic| refine Hold.mk ?_)
local macro_rules | `(tactic| walk_at "zzitem") => `(tactic| (k_dflt (refine' topItem_K ?F ?X ?l ?k ?e ?_; (case F => k_asm); (case X => k_asm); (case l => k_is); (case k => k_keys); (case e => k_is))))
local macro_rules | `(tactic| walk_at "call ref") => `(tactic| ((with_reducible show wpAny _ _ (call (Value.ref 31) _) _ _ _); k_dflt (refine' Ctr.use (mgr0_ctr _ _ _ _ ?hx) ?k1 ?k2 ?k3 ?k4 ?k5 ?k6 ?k7 ?k8 ?_; (case k1 => k_asm); (case k2 => k_asm); (case k3 => k_asm); (case k4 => k_asm); (case k5 => k_asm); (case k6 => rfl)); (case hx => first | omega | (simp only [cutTo, cutFrom, List.length_take, List.length_drop, List.length_append, List.length_cons, List.length_nil] at *; omega) | (have h9 := edF_le (by assumption); omega) | (have h9 := longF_leA (by assumption); omega) | (have h9 := s5F_le (by assumption); omega) | (have h9 := s42F_le (by assumption); (simp only [List.length_append, List.length_cons, List.length_nil]); omega)); (case k7 => first | exact room (by assumption) (by decide) | decide | omega); (case k8 => first | exact roomU (by assumption) (by decide) | decide | omega); (intro v9 nx9 h9 tk9 hP9 hO9 F9 N9); (obtain ⟨hv9, hn9⟩ := hP9); (subst hv9); (subst hn9); (try dsimp only); (try simp only [List.nil_append, List.cons_append] at N9)))
local macro_rules | `(tactic| walk_at "call ref") => `(tactic| ((with_reducible show wpAny _ _ (call (Value.ref 38) _) _ _ _); k_dflt (refine' Ctr.use (meq1_ctr _ _ _ _ ?hx) ?k1 ?k2 ?k3 ?k4 ?k5 ?k6 ?k7 ?k8 ?_; (case k1 => k_asm); (case k2 => k_asm); (case k3 => k_asm); (case k4 => k_asm); (case k5 => k_asm); (case k6 => rfl)); (case hx => first | omega | (simp only [cutTo, cutFrom, List.length_take, List.length_drop, List.length_append, List.length_cons, List.length_nil] at *; omega) | (have h9 := edF_le (by assumption); omega) | (have h9 := longF_leA (by assumption); omega) | (have h9 := s5F_le (by assumption); omega) | (have h9 := s42F_le (by assumption); (simp only [List.length_append, List.length_cons, List.length_nil]); omega)); (case k7 => first | exact room (by assumption) (by decide) | decide | omega); (case k8 => first | exact roomU (by assumption) (by decide) | decide | omega); (intro v9 nx9 h9 tk9 hP9 hO9 F9 N9); (obtain ⟨hv9, hn9⟩ := hP9); (subst hv9); (subst hn9); (try dsimp only); (try simp only [List.nil_append, List.cons_append] at N9)))
local macro_rules | `(tactic| walk_at "call ref") => `(tactic| ((with_reducible show wpAny _ _ (call (Value.ref 45) _) _ _ _); k_dflt (refine' Ctr.use (mgr1_ctr _ _ _ _ ?hx) ?k1 ?k2 ?k3 ?k4 ?k5 ?k6 ?k7 ?k8 ?_; (case k1 => k_asm); (case k2 => k_asm); (case k3 => k_asm); (case k4 => k_asm); (case k5 => k_asm); (case k6 => rfl)); (case hx => first | omega | (simp only [cutTo, cutFrom, List.length_take, List.length_drop, List.length_append, List.length_cons, List.length_nil] at *; omega) | (have h9 := edF_le (by assumption); omega) | (have h9 := longF_leA (by assumption); omega) | (have h9 := s5F_le (by assumption); omega) | (have h9 := s42F_le (by assumption); (simp only [List.length_append, List.length_cons, List.length_nil]); omega)); (case k7 => first | exact room (by assumption) (by decide) | decide | omega); (case k8 => first | exact roomU (by assumption) (by decide) | decide | omega); (intro v9 nx9 h9 tk9 hP9 hO9 F9 N9); (obtain ⟨hv9, hn9⟩ := hP9); (subst hv9); (subst hn9); (try dsimp only); (try simp only [List.nil_append, List.cons_append] at N9)))
local macro_rules | `(tactic| walk_at "call ref") => `(tactic| ((with_reducible show wpAny _ _ (call (Value.ref 52) _) _ _ _); k_dflt (refine' Ctr.use (sv_ctr _ _ _ _ ?hx) ?k1 ?k2 ?k3 ?k4 ?k5 ?k6 ?k7 ?k8 ?_; (case k1 => k_asm); (case k2 => k_asm); (case k3 => k_asm); (case k4 => k_asm); (case k5 => k_asm); (case k6 => rfl)); (case hx => first | omega | (simp only [cutTo, cutFrom, List.length_take, List.length_drop, List.length_append, List.length_cons, List.length_nil] at *; omega) | (have h9 := edF_le (by assumption); omega) | (have h9 := longF_leA (by assumption); omega) | (have h9 := s5F_le (by assumption); omega) | (have h9 := s42F_le (by assumption); (simp only [List.length_append, List.length_cons, List.length_nil]); omega)); (case k7 => first | exact room (by assumption) (by decide) | decide | omega); (case k8 => first | exact roomU (by assumption) (by decide) | decide | omega); (intro v9 nx9 h9 tk9 hP9 hO9 F9 N9); (obtain ⟨hv9, hn9⟩ := hP9); (subst hv9); (subst hn9); (try dsimp only); (try simp only [List.nil_append, List.cons_append] at N9)))
local macro_rules | `(tactic| walk_at "call ref") => `(tactic| ((with_reducible show wpAny _ _ (call (Value.ref 59) _) _ _ _); k_dflt (refine' Ctr.use (cv_ctr _ _ _ _ ?hx) ?k1 ?k2 ?k3 ?k4 ?k5 ?k6 ?k7 ?k8 ?_; (case k1 => k_asm); (case k2 => k_asm); (case k3 => k_asm); (case k4 => k_asm); (case k5 => k_asm); (case k6 => rfl)); (case hx => first | omega | (simp only [cutTo, cutFrom, List.length_take, List.length_drop, List.length_append, List.length_cons, List.length_nil] at *; omega) | (have h9 := edF_le (by assumption); omega) | (have h9 := longF_leA (by assumption); omega) | (have h9 := s5F_le (by assumption); omega) | (have h9 := s42F_le (by assumption); (simp only [List.length_append, List.length_cons, List.length_nil]); omega)); (case k7 => first | exact room (by assumption) (by decide) | decide | omega); (case k8 => first | exact roomU (by assumption) (by decide) | decide | omega); (intro v9 nx9 h9 tk9 hP9 hO9 F9 N9); (obtain ⟨hv9, hn9⟩ := hP9); (subst hv9); (subst hn9); (try dsimp only); (try simp only [List.nil_append, List.cons_append] at N9)))
local macro_rules | `(tactic| walk_at "call ref") => `(tactic| ((with_reducible show wpAny _ _ (call (Value.ref 73) _) _ _ _); k_dflt (refine' Ctr.use (abi_ctr _ _ _ _ ?hx) ?k1 ?k2 ?k3 ?k4 ?k5 ?k6 ?k7 ?k8 ?_; (case k1 => k_asm); (case k2 => k_asm); (case k3 => k_asm); (case k4 => k_asm); (case k5 => k_asm); (case k6 => rfl)); (case hx => first | omega | (simp only [cutTo, cutFrom, List.length_take, List.length_drop, List.length_append, List.length_cons, List.length_nil] at *; omega) | (have h9 := edF_le (by assumption); omega) | (have h9 := longF_leA (by assumption); omega) | (have h9 := s5F_le (by assumption); omega) | (have h9 := s42F_le (by assumption); (simp only [List.length_append, List.length_cons, List.length_nil]); omega)); (case k7 => first | exact room (by assumption) (by decide) | decide | omega); (case k8 => first | exact roomU (by assumption) (by decide) | decide | omega); (intro v9 nx9 h9 tk9 hP9 hO9 F9 N9); (obtain ⟨hv9, hn9⟩ := hP9); (subst hv9); (subst hn9); (try dsimp only); (try simp only [List.nil_append, List.cons_append] at N9)))
local macro_rules | `(tactic| walk_at "call ref") => `(tactic| ((with_reducible show wpAny _ _ (call (Value.ref 80) _) _ _ _); k_dflt (refine' Ctr.use (s1b_ctr _ _ _ _ ?hx) ?k1 ?k2 ?k3 ?k4 ?k5 ?k6 ?k7 ?k8 ?_; (case k1 => k_asm); (case k2 => k_asm); (case k3 => k_asm); (case k4 => k_asm); (case k5 => k_asm); (case k6 => rfl)); (case hx => first | omega | (simp only [cutTo, cutFrom, List.length_take, List.length_drop, List.length_append, List.length_cons, List.length_nil] at *; omega) | (have h9 := edF_le (by assumption); omega) | (have h9 := longF_leA (by assumption); omega) | (have h9 := s5F_le (by assumption); omega) | (have h9 := s42F_le (by assumption); (simp only [List.length_append, List.length_cons, List.length_nil]); omega)); (case k7 => first | exact room (by assumption) (by decide) | decide | omega); (case k8 => first | exact roomU (by assumption) (by decide) | decide | omega); (intro v9 nx9 h9 tk9 hP9 hO9 F9 N9); (obtain ⟨hv9, hn9⟩ := hP9); (subst hv9); (subst hn9); (try dsimp only); (try simp only [List.nil_append, List.cons_append] at N9)))
local macro_rules | `(tactic| walk_at "call ref") => `(tactic| ((with_reducible show wpAny _ _ (call (Value.ref 66) _) _ _ _); k_dflt (refine' Ctr.use (ed_ctr _ _ _ _ ?hx) ?k1 ?k2 ?k3 ?k4 ?k5 ?k6 ?k7 ?k8 ?_; (case k1 => k_asm); (case k2 => k_asm); (case k3 => k_asm); (case k4 => k_asm); (case k5 => k_asm); (case k6 => rfl)); (case hx => first | omega | (simp only [cutTo, cutFrom, List.length_take, List.length_drop, List.length_append, List.length_cons, List.length_nil] at *; omega) | (have h9 := edF_le (by assumption); omega) | (have h9 := longF_leA (by assumption); omega) | (have h9 := s5F_le (by assumption); omega) | (have h9 := s42F_le (by assumption); (simp only [List.length_append, List.length_cons, List.length_nil]); omega)); (case k7 => first | exact room (by assumption) (by decide) | decide | omega); (case k8 => first | exact roomU (by assumption) (by decide) | decide | omega); (intro v9 nx9 h9 tk9 hP9 hO9 F9 N9); (rcases hP9 with ⟨hr9, hv9, hn9⟩ | ⟨a9, y9, d9, t1, t2, t3, hr9, hv9, hn9⟩); all_goals ((subst hv9); (subst hn9); (try have hb9 := edF_le hr9); (try dsimp only at hb9); (try dsimp only); (try simp only [List.nil_append, List.cons_append] at N9))))
local macro_rules | `(tactic| walk_at "call ref") => `(tactic| ((with_reducible show wpAny _ _ (call (Value.ref 94) _) _ _ _); k_dflt (refine' Ctr.use (step2_ctr _ _ _ _ ?hx) ?k1 ?k2 ?k3 ?k4 ?k5 ?k6 ?k7 ?k8 ?_; (case k1 => k_asm); (case k2 => k_asm); (case k3 => k_asm); (case k4 => k_asm); (case k5 => k_asm); (case k6 => rfl)); (case hx => first | omega | (simp only [cutTo, cutFrom, List.length_take, List.length_drop, List.length_append, List.length_cons, List.length_nil] at *; omega) | (have h9 := edF_le (by assumption); omega) | (have h9 := longF_leA (by assumption); omega) | (have h9 := s5F_le (by assumption); omega) | (have h9 := s42F_le (by assumption); (simp only [List.length_append, List.length_cons, List.length_nil]); omega)); (case k7 => first | exact room (by assumption) (by decide) | decide | omega); (case k8 => first | exact roomU (by assumption) (by decide) | decide | omega); (intro v9 nx9 h9 tk9 hP9 hO9 F9 N9); (rcases hP9 with ⟨hr9, hv9, hn9⟩ | ⟨a9, y9, d9, t1, t2, t3, hr9, hv9, hn9⟩); all_goals ((subst hv9); (subst hn9); (try have hb9 := longF_leA hr9); (try dsimp only at hb9); (try dsimp only); (try simp only [List.nil_append, List.cons_append] at N9))))
local macro_rules | `(tactic| walk_at "call ref") => `(tactic| ((with_reducible show wpAny _ _ (call (Value.ref 101) _) _ _ _); k_dflt (refine' Ctr.use (step3_ctr _ _ _ _ ?hx) ?k1 ?k2 ?k3 ?k4 ?k5 ?k6 ?k7 ?k8 ?_; (case k1 => k_asm); (case k2 => k_asm); (case k3 => k_asm); (case k4 => k_asm); (case k5 => k_asm); (case k6 => rfl)); (case hx => first | omega | (simp only [cutTo, cutFrom, List.length_take, List.length_drop, List.length_append, List.length_cons, List.length_nil] at *; omega) | (have h9 := edF_le (by assumption); omega) | (have h9 := longF_leA (by assumption); omega) | (have h9 := s5F_le (by assumption); omega) | (have h9 := s42F_le (by assumption); (simp only [List.length_append, List.length_cons, List.length_nil]); omega)); (case k7 => first | exact room (by assumption) (by decide) | decide | omega); (case k8 => first | exact roomU (by assumption) (by decide) | decide | omega); (intro v9 nx9 h9 tk9 hP9 hO9 F9 N9); (rcases hP9 with ⟨hr9, hv9, hn9⟩ | ⟨a9, y9, d9, t1, t2, t3, hr9, hv9, hn9⟩); all_goals ((subst hv9); (subst hn9); (try have hb9 := longF_leA hr9); (try dsimp only at hb9); (try dsimp only); (try simp only [List.nil_append, List.cons_append] at N9))))
local macro_rules | `(tactic| walk_at "call ref") => `(tactic| ((with_reducible show wpAny _ _ (call (Value.ref 108) _) _ _ _); k_dflt (refine' Ctr.use (step4_ctr _ _ _ _ ?hx) ?k1 ?k2 ?k3 ?k4 ?k5 ?k6 ?k7 ?k8 ?_; (case k1 => k_asm); (case k2 => k_asm); (case k3 => k_asm); (case k4 => k_asm); (case k5 => k_asm); (case k6 => rfl)); (case hx => first | omega | (simp only [cutTo, cutFrom, List.length_take, List.length_drop, List.length_append, List.length_cons, List.length_nil] at *; omega) | (have h9 := edF_le (by assumption); omega) | (have h9 := longF_leA (by assumption); omega) | (have h9 := s5F_le (by assumption); omega) | (have h9 := s42F_le (by assumption); (simp only [List.length_append, List.length_cons, List.length_nil]); omega)); (case k7 => first | exact room (by assumption) (by decide) | decide | omega); (case k8 => first | exact roomU (by assumption) (by decide) | decide | omega); (intro v9 nx9 h9 tk9 hP9 hO9 F9 N9); (rcases hP9 with ⟨hr9, hv9, hn9⟩ | ⟨a9, y9, d9, t1, t2, t3, hr9, hv9, hn9⟩); all_goals ((subst hv9); (subst hn9); (try have hb9 := longF_leA hr9); (try dsimp only at hb9); (try dsimp only); (try simp only [List.nil_append, List.cons_append] at N9))))
local macro_rules | `(tactic| walk_at "call ref") => `(tactic| ((with_reducible show wpAny _ _ (call (Value.ref 122) _) _ _ _); k_dflt (refine' Ctr.use (s5_ctr _ _ _ _ ?hx) ?k1 ?k2 ?k3 ?k4 ?k5 ?k6 ?k7 ?k8 ?_; (case k1 => k_asm); (case k2 => k_asm); (case k3 => k_asm); (case k4 => k_asm); (case k5 => k_asm); (case k6 => rfl)); (case hx => first | omega | (simp only [cutTo, cutFrom, List.length_take, List.length_drop, List.length_append, List.length_cons, List.length_nil] at *; omega) | (have h9 := edF_le (by assumption); omega) | (have h9 := longF_leA (by assumption); omega) | (have h9 := s5F_le (by assumption); omega) | (have h9 := s42F_le (by assumption); (simp only [List.length_append, List.length_cons, List.length_nil]); omega)); (case k7 => first | exact room (by assumption) (by decide) | decide | omega); (case k8 => first | exact roomU (by assumption) (by decide) | decide | omega); (intro v9 nx9 h9 tk9 hP9 hO9 F9 N9); (rcases hP9 with ⟨hr9, hv9, hn9⟩ | ⟨a9, d9, t1, t2, hr9, hv9, hn9⟩); all_goals ((subst hv9); (subst hn9); (try have hb9 := s5F_le hr9); (try dsimp only at hb9); (try dsimp only); (try simp only [List.nil_append, List.cons_append] at N9))))
local macro_rules | `(tactic| walk_at "call ref") => `(tactic| ((with_reducible show wpAny _ _ (call (Value.ref 115) _) _ _ _); k_dflt (refine' Ctr.use (s42_ctr _ _ _ _ ?hx) ?k1 ?k2 ?k3 ?k4 ?k5 ?k6 ?k7 ?k8 ?_; (case k1 => k_asm); (case k2 => k_asm); (case k3 => k_asm); (case k4 => k_asm); (case k5 => k_asm); (case k6 => rfl)); (case hx => first | omega | (simp only [cutTo, cutFrom, List.length_take, List.length_drop, List.length_append, List.length_cons, List.length_nil] at *; omega) | (have h9 := edF_le (by assumption); omega) | (have h9 := longF_leA (by assumption); omega) | (have h9 := s5F_le (by assumption); omega) | (have h9 := s42F_le (by assumption); (simp only [List.length_append, List.length_cons, List.length_nil]); omega)); (case k7 => first | exact room (by assumption) (by decide) | decide | omega); (case k8 => first | exact roomU (by assumption) (by decide) | decide | omega); (intro v9 nx9 h9 tk9 hP9 hO9 F9 N9); (rcases hP9 with ⟨hr9, hv9, hn9⟩ | ⟨a9, d9, t1, t2, t3, t4, hr9, hv9, hn9⟩); all_goals ((subst hv9); (subst hn9); (try have hb9 := s42F_le hr9); (try dsimp only at hb9); (try dsimp only); (try simp only [List.nil_append, List.cons_append] at N9))))
theorem stem_ctr (w : World) (news : List (Addr × Obj)) (l : List Nat) (tx : Tok) (hx : l.length ≤ 100) :
    Ctr w 3 129 news [.str (S l) tx] fun v nx => ∃ t, v = .str (S (stemF l)) t ∧ nx = [] := by
  w_top off
  have hfill : PySem.Challenge.rw_iv0075_01 = PySem.Challenge.rw_iv0075_01 ∧ frag.heap_1 = frag.heap_1 := by
    k_fill
    exact ⟨rfl, rfl⟩
  refine' Ctr.intro [(Str.ofString "w", .str (S l) tx)] ?k1 ?k2 ?k3 ?k4 ?k5 ?k6 ?k7 ?k8 ?_
  case k1 => k_is
  case k2 => k_is
  case k3 => rfl
  case k4 => exact locs rfl
  case k5 => rfl
  case k6 => rfl
  case k7 => rfl
  case k8 => decide
  intro mean mg mb dp un gd outer A₀ base g L s B F X N T hdp hun
  try k_fold
  -- the short ones, and the first sign
  refine cut1 (StC (3 ≤ l.length) g L news s [(Str.ofString "w", .str (S l) tx)]) ?_ ?_
  · k_steps
    · exact BodyPost.plain F N (fun _ h => h) ⟨tx, by unfold stemF; rw [if_pos (by omega)], rfl⟩
    · exact ⟨by omega, StP.mk1 F N (fun _ h => h) rfl⟩
  rintro s1 ⟨h3, h1, tk1, u1, rfl, F1, N1⟩
  dsimp only [kstB] at F1
  refine cut1 (StW g L news s l (firstY l)) ?_ ?_
  · k_steps
    (rename Fr _ _ _ _ => F9); (rename News _ _ _ _ => N9)
    exact StP.w F9 N9 (fun _ h => h) rfl rfl rfl
  generalize hb : firstY l = b
  rintro s2 ⟨t2, h2, tk2, u2, rfl, F2, N2⟩
  dsimp only [kstB] at F2
  clear F1 N1 F
  refine cut1 (StW g L news s (st2 b l) b) ?_ ?_
  · k_steps
    all_goals ((rename Fr _ _ _ _ => F9); (rename News _ _ _ _ => N9))
    all_goals (rename b = _ => hb')
    all_goals (refine StP.w F9 N9 (fun _ h => h) rfl rfl ?_)
    all_goals (unfold st2; rw [hb']; rfl)
  have hst : stemF l = st15 b (st14 (st12 (st10 (stP ends3 third (stP ends2 second (st5 (st4 (st3 (st2 b l))))))))) := by
    unfold stemF; rw [if_neg (by omega), hb]
  have he2 := st2_len (b := b) (l := l) (by omega)
  generalize hl3 : st2 b l = l3 at hst he2
  rintro s3 ⟨t3, h3', tk3, u3, rfl, F3, N3⟩
  dsimp only [kstB] at F3
  clear F2 N2
  refine cut1 (StW g L news s (st3 l3) b) ?_ ?_
  · k_steps
    all_goals ((try dsimp only); (rename Fr _ _ _ _ => F9); (rename News _ _ _ _ => N9); refine StP.w F9 N9 (by intro p hp; first | exact hp | exact .tail _ hp | exact .tail _ (.tail _ hp)) rfl rfl ?_)
    all_goals (clear F9 N9 he2; unfold st3; simp only [*, if_true, if_false, Bool.false_eq_true])
    all_goals (first | done | (rename ([List.getD _ _ _] == _) = _ => h9; have h9' : ([l3.getD (l3.length - 2) 0] == (Str.ofString "s").cps.toList) = _ := h9; simp only [h9', if_true, if_false, Bool.false_eq_true]))
  have hx4 := st3_le l3
  generalize hl4 : st3 l3 = l4 at hst hx4
  rintro s4 ⟨t4, h4, tk4, u4, rfl, F4, N4⟩
  dsimp only [kstB] at F4
  clear F3 N3
  refine cut1 (StW g L news s (st4 l4) b) ?_ ?_
  · k_steps
    all_goals ((try dsimp only); (rename Fr _ _ _ _ => F9); (rename News _ _ _ _ => N9); refine StP.w F9 N9 (by intro p hp; first | exact hp | exact .tail _ hp | exact .tail _ (.tail _ hp)) rfl rfl ?_)
    all_goals (clear F9 N9; unfold st4; simp only [*, if_true, if_false, Bool.false_eq_true])
  have hx5 := st4_le l4
  generalize hl5 : st4 l4 = l5 at hst hx5
  rintro s5 ⟨t5, h5, tk5, u5, rfl, F5, N5⟩
  dsimp only [kstB] at F5
  clear F4 N4
  refine cut1 (StW g L news s (st5 l5) b) ?_ ?_
  · k_steps
    all_goals ((try dsimp only); (rename Fr _ _ _ _ => F9); (rename News _ _ _ _ => N9); refine StP.w F9 N9 (by intro p hp; first | exact hp | exact .tail _ hp | exact .tail _ (.tail _ hp)) rfl rfl ?_)
    all_goals (clear F9 N9; unfold st5; simp only [*, if_true, if_false, Bool.false_eq_true])
  have hx6 := st5_le l5
  generalize hl6 : st5 l5 = l6 at hst hx6
  rintro s6 ⟨t6, h6, tk6, u6, rfl, F6, N6⟩
  dsimp only [kstB] at F6
  clear F5 N5
  refine cut2 (StW g L news s (stP ends2 second l6) b) ?_ ?_
  · k_steps
    · ((try dsimp only); (rename Fr _ _ _ _ => F9); (rename News _ _ _ _ => N9); refine StP.w F9 N9 (by intro p hp; first | exact hp | exact .tail _ hp | exact .tail _ (.tail _ hp)) rfl rfl ?_)
      rename longF _ _ = _ => hr
      clear F9 N9; unfold stP; rw [hr]
    · rename longF _ _ = _ => hr
      rename mgr0F _ = _ => hm
      have hy := long_mem l6 ends2 ends2 none (fun _ hq => by cases hq) (fun _ hz => hz) _ hr
      dsimp only at hy
      unfold Hold
      simp only [ends2, List.mem_cons, List.not_mem_nil, or_false] at hy
      rcases hy with rfl | rfl | rfl | rfl | rfl | rfl | rfl | rfl | rfl | rfl | rfl | rfl | rfl | rfl | rfl | rfl | rfl | rfl | rfl | rfl | rfl
      all_goals walk_at "zzitem"
      all_goals k_steps
      all_goals ((try dsimp only); (rename Fr _ _ _ _ => F9); (rename News _ _ _ _ => N9); refine StP.w F9 N9 (by intro p hp; first | exact hp | exact .tail _ hp | exact .tail _ (.tail _ hp)) rfl rfl ?_)
      all_goals (clear F9 N9; unfold stP; rw [hr]; simp only [hm, if_true])
      all_goals rfl
    · ((try dsimp only); (rename Fr _ _ _ _ => F9); (rename News _ _ _ _ => N9); refine StP.w F9 N9 (by intro p hp; first | exact hp | exact .tail _ hp | exact .tail _ (.tail _ hp)) rfl rfl ?_)
      rename longF _ _ = _ => hr
      rename mgr0F _ = _ => hm
      clear F9 N9; unfold stP; rw [hr]; simp only [hm, Bool.false_eq_true, if_false]
  have hx7 := stP_le (n := 10) (ends := ends2) (prs := second) (by decide) l6
  generalize hl7 : stP ends2 second l6 = l7 at hst hx7
  rintro s7 ⟨t7, h7, tk7, u7, rfl, F7, N7⟩
  dsimp only [kstB] at F7
  clear F6 N6
  refine cut2 (StW g L news s (stP ends3 third l7) b) ?_ ?_
  · k_steps
    · ((try dsimp only); (rename Fr _ _ _ _ => F9); (rename News _ _ _ _ => N9); refine StP.w F9 N9 (by intro p hp; first | exact hp | exact .tail _ hp | exact .tail _ (.tail _ hp)) rfl rfl ?_)
      rename longF _ _ = _ => hr
      clear F9 N9; unfold stP; rw [hr]
    · rename longF _ _ = _ => hr
      rename mgr0F _ = _ => hm
      have hy := long_mem l7 ends3 ends3 none (fun _ hq => by cases hq) (fun _ hz => hz) _ hr
      dsimp only at hy
      unfold Hold
      simp only [ends3, List.mem_cons, List.not_mem_nil, or_false] at hy
      rcases hy with rfl | rfl | rfl | rfl | rfl | rfl | rfl
      all_goals walk_at "zzitem"
      all_goals k_steps
      all_goals ((try dsimp only); (rename Fr _ _ _ _ => F9); (rename News _ _ _ _ => N9); refine StP.w F9 N9 (by intro p hp; first | exact hp | exact .tail _ hp | exact .tail _ (.tail _ hp)) rfl rfl ?_)
      all_goals (clear F9 N9; unfold stP; rw [hr]; simp only [hm, if_true])
      all_goals rfl
    · ((try dsimp only); (rename Fr _ _ _ _ => F9); (rename News _ _ _ _ => N9); refine StP.w F9 N9 (by intro p hp; first | exact hp | exact .tail _ hp | exact .tail _ (.tail _ hp)) rfl rfl ?_)
      rename longF _ _ = _ => hr
      rename mgr0F _ = _ => hm
      clear F9 N9; unfold stP; rw [hr]; simp only [hm, Bool.false_eq_true, if_false]
  have hx8 := stP_le (n := 10) (ends := ends3) (prs := third) (by decide) l7
  generalize hl8 : stP ends3 third l7 = l8 at hst hx8
  rintro s8 ⟨t8, h8, tk8, u8, rfl, F8, N8⟩
  dsimp only [kstB] at F8
  clear F7 N7
  refine cut2 (StW g L news s (st10 l8) b) ?_ ?_
  · k_steps
    all_goals ((try dsimp only); (rename Fr _ _ _ _ => F9); (rename News _ _ _ _ => N9); refine StP.w F9 N9 (by intro p hp; first | exact hp | exact .tail _ hp | exact .tail _ (.tail _ hp)) rfl rfl ?_)
    all_goals (clear F9 N9; unfold st10; simp only [*, if_true, if_false, Bool.false_eq_true])
  have hx10 := st10_le l8
  generalize hl10 : st10 l8 = l10 at hst hx10
  rintro s10 ⟨t10, h10, tk10, u10, rfl, F10, N10⟩
  dsimp only [kstB] at F10
  clear F8 N8
  refine cut2 (StW g L news s (st12 l10) b) ?_ ?_
  · k_steps
    all_goals ((try dsimp only); (rename Fr _ _ _ _ => F9); (rename News _ _ _ _ => N9); refine StP.w F9 N9 (by intro p hp; first | exact hp | exact .tail _ hp | exact .tail _ (.tail _ hp)) rfl rfl ?_)
    all_goals (clear F9 N9; unfold st12; simp only [*, if_true, if_false, Bool.false_eq_true])
  have hx12 := st12_le l10
  generalize hl12 : st12 l10 = l12 at hst hx12
  rintro s12 ⟨t12, h12, tk12, u12, rfl, F12, N12⟩
  dsimp only [kstB] at F12
  clear F10 N10
  refine cut1 (StW g L news s (st14 l12) b) ?_ ?_
  · k_steps
    all_goals ((try dsimp only); (rename Fr _ _ _ _ => F9); (rename News _ _ _ _ => N9); refine StP.w F9 N9 (by intro p hp; first | exact hp | exact .tail _ hp | exact .tail _ (.tail _ hp)) rfl rfl ?_)
    all_goals (clear F9 N9; unfold st14; simp only [*, if_true, if_false, Bool.false_eq_true])
  have hx14 := st14_le l12
  generalize hl14 : st14 l12 = l14 at hst hx14
  rintro s14 ⟨t14, h14, tk14, u14, rfl, F14, N14⟩
  dsimp only [kstB] at F14
  clear F12 N12
  refine cut1 (StW g L news s (st15 b l14) b) ?_ ?_
  · k_steps
    all_goals ((try dsimp only); (rename Fr _ _ _ _ => F9); (rename News _ _ _ _ => N9); refine StP.w F9 N9 (by intro p hp; first | exact hp | exact .tail _ hp | exact .tail _ (.tail _ hp)) rfl rfl ?_)
    all_goals (clear F9 N9; rename b = _ => hb'; unfold st15; rw [hb']; rfl)
  rintro s15 ⟨t15, h15, tk15, u15, rfl, F15, N15⟩
  dsimp only [kstB] at F15
  k_steps
  (rename Fr _ _ _ _ => F9); (rename News _ _ _ _ => N9)
  exact BodyPost.plain F9 N9 (fun _ h => h) ⟨t15, by rw [hst], rfl⟩
end
section
local macro_rules | `(tactic| walk_at "call builtin:len") => `(tactic| ((with_reducible refine op_len ?hb ?_); (case hb => first | omega | (simp only [List.length_take, List.length_append, List.length_cons, List.length_nil, cutTo, cutFrom, List.length_drop] at *; omega)); intro _ _; (try dsimp only)))
local macro_rules | `(tactic| walk_at "subscriptTail Name Name str int") => `(tactic| ((with_reducible refine op_item _ ?hi ?hb ?_); (case hi => omega); (case hb => omega); intro _ _; (try dsimp only)))
local macro_rules | `(tactic| walk_at "subscriptTail Name BinOp str int") => `(tactic| ((with_reducible refine op_itemZ ?h0 ?hi ?hb ?_); (case h0 => first | omega | (simp only [decide_eq_true_eq, beq_iff_eq] at *; omega)); (case hi => first | omega | (simp only [decide_eq_true_eq, beq_iff_eq] at *; omega)); (case hb => omega); intro _ _; (try dsimp only)))
local macro_rules | `(tactic| walk_at "subscriptTail Name Constant str int") => `(tactic| ((with_reducible refine op_itemZ ?h0 ?hi ?hb ?_); (case h0 => first | decide | omega); (case hi => first | omega | (simp only [decide_eq_true_eq, beq_iff_eq] at *; omega)); (case hb => omega); intro _ _; (try dsimp only)))
local macro_rules | `(tactic| walk_at "compareOp In str str") => `(tactic| (with_reducible refine op_in ?_))
local macro_rules | `(tactic| walk_at "compareOp NotIn str str") => `(tactic| (with_reducible refine op_notin ?_))
local macro_rules | `(tactic| walk_at "compareOp Eq str str") => `(tactic| (with_reducible refine op_eq ?_))
local macro_rules | `(tactic| walk_at "call builtin:str.endswith") => `(tactic| ((with_reducible refine SC.endswith ?_); (try rw [endswith_S])))
local macro_rules | `(tactic| walk_at "subscriptTail Name Slice str ref") => `(tactic| ((with_reducible show wpAny _ _ (subscriptTail _ (Expr.Slice none (some _) none _) _ _) _ _ _); (with_reducible rename Fr _ _ _ _ => F'); (with_reducible rename News _ _ _ _ => N'); (refine op_to (s := ⟨_, _, _, _, _⟩) F' N' ?hb ?_); (case hb => omega); intro _ _ _ _ _; (try dsimp only)))
local macro_rules | `(tactic| walk_at "subscriptTail Name Slice str ref") => `(tactic| ((with_reducible show wpAny _ _ (subscriptTail _ (Expr.Slice (some _) none none _) _ _) _ _ _); (with_reducible rename Fr _ _ _ _ => F'); (with_reducible rename News _ _ _ _ => N'); (refine op_from (s := ⟨_, _, _, _, _⟩) F' N' ?hb ?_); (case hb => omega); intro _ _ _ _ _; (try dsimp only)))
local macro_rules | `(tactic| walk_at "subscriptTail Name UnaryOp str int") => `(tactic| ((with_reducible refine op_itemN ?h0 ?hi ?hb ?_); (case h0 => decide); (case hi => first | omega | (simp only [decide_eq_true_eq, beq_iff_eq] at *; omega)); (case hb => omega); intro _ _; (try dsimp only)))
local macro_rules | `(tactic| walk_at "binaryOp Add str str") => `(tactic| ((with_reducible refine op_add ?hb ?hy ?_); (case hb => omega); (case hy => first | decide | (rw [S_cps]; omega)); intro _ _; (try simp only [S_cps]); (try dsimp only)))
local macro_rules | `(tactic| walk_at "inplaceOp Add str str") => `(tactic| ((with_reducible refine op_iadd ?hb ?hy ?_); (case hb => omega); (case hy => first | decide | (rw [S_cps]; omega)); intro _ _; (try simp only [S_cps]); (try dsimp only)))
local macro_rules | `(tactic| walk_at "compareOp NotEq str str") => `(tactic| (with_reducible refine op_ne ?_))
local macro_rules | `(tactic| walk_at "subscriptTail Name UnaryOp str int") => `(tactic| ((with_reducible refine op_itemN ?h0 ?hi ?hb ?_); (case h0 => decide); (case hi => exact pos_of_ne (by assumption)); (case hb => omega); intro _ _; (try dsimp only)))
local macro_rules | `(tactic| walk_at "subscriptTail Name Name str int") => `(tactic| ((with_reducible refine op_itemZ ?h0 ?hi ?hb ?_); (case h0 => omega); (case hi => omega); (case hb => omega); intro _ _; (try dsimp only)))
local macro_rules | `(tactic| walk_at "subscriptTail Name Name str int") => `(tactic| ((with_reducible refine op_item _ ?hi ?hb ?_); (case hi => omega); (case hb => omega); intro _ _; (try dsimp only)))
local macro_rules | `(tactic| walk_at "binaryOp Add str str") => `(tactic| ((with_reducible refine op_add_l ?hb ?hy ?_); (case hb => first | omega | (simp only [cutTo, cutFrom, List.length_take, List.length_drop]; omega)); (case hy => first | decide | (rw [S_cps]; omega)); intro _ _; (try simp only [S_cps]); (try dsimp only)))
local macro_rules | `(tactic| walk_at "binaryOp Add str str") => `(tactic| ((with_reducible refine op_add ?hb ?hy ?_); (case hb => first | omega | (simp only [cutTo, cutFrom, List.length_take, List.length_drop]; omega)); (case hy => first | decide | (rw [S_cps]; first | omega | (simp only [List.length_cons, List.length_nil]; omega))); intro _ _; (try simp only [S_cps]); (try dsimp only)))
noncomputable def endsA : List Str := [Str.ofString "sses", Str.ofString "ies", Str.ofString "ss", Str.ofString "s"]
noncomputable def endsB : List Str := [Str.ofString "eed", Str.ofString "ed", Str.ofString "ing"]
noncomputable def endsC : List Str := [Str.ofString "at", Str.ofString "bl", Str.ofString "iz"]
noncomputable def endsD : List Str := [Str.ofString "al", Str.ofString "ance", Str.ofString "ence", Str.ofString "er", Str.ofString "ic", Str.ofString "able", Str.ofString "ible", Str.ofString "ant", Str.ofString "ement", Str.ofString "ment", Str.ofString "ent", Str.ofString "ion", Str.ofString "ou", Str.ofString "ism", Str.ofString "ate", Str.ofString "iti", Str.ofString "ous", Str.ofString "ive", Str.ofString "ize"]
noncomputable def vs2 : List Value := [.ref 137, .ref 138, .ref 139, .ref 140, .ref 141, .ref 142, .ref 143, .ref 144, .ref 145, .ref 146, .ref 147, .ref 148, .ref 149, .ref 150, .ref 151, .ref 152, .ref 153, .ref 154, .ref 155, .ref 156, .ref 157]
noncomputable def vs3 : List Value := [.ref 159, .ref 160, .ref 161, .ref 162, .ref 163, .ref 164, .ref 165]
theorem tab2_list (w : World) : (frag.heap_1 w.params).lookup 158 = some (listOf vs2.toArray 0) := rfl
theorem tab3_list (w : World) : (frag.heap_1 w.params).lookup 166 = some (listOf vs3.toArray 0) := rfl
theorem tab2_pairs (w : World) : PairsAt (frag.heap_1 w.params) vs2 second := .cons rfl (.cons rfl (.cons rfl (.cons rfl (.cons rfl (.cons rfl (.cons rfl (.cons rfl (.cons rfl (.cons rfl (.cons rfl (.cons rfl (.cons rfl (.cons rfl (.cons rfl (.cons rfl (.cons rfl (.cons rfl (.cons rfl (.cons rfl (.cons rfl (.nil)))))))))))))))))))))
theorem tab3_pairs (w : World) : PairsAt (frag.heap_1 w.params) vs3 third := .cons rfl (.cons rfl (.cons rfl (.cons rfl (.cons rfl (.cons rfl (.cons rfl (.nil)))))))
theorem tab4_ex (w : World) : ∃ vs, (frag.heap_1 w.params).lookup 167 = some (listOf vs.toArray 0) ∧ StrsAre vs endsD := ⟨_, rfl, .cons _ _ (.cons _ _ (.cons _ _ (.cons _ _ (.cons _ _ (.cons _ _ (.cons _ _ (.cons _ _ (.cons _ _ (.cons _ _ (.cons _ _ (.cons _ _ (.cons _ _ (.cons _ _ (.cons _ _ (.cons _ _ (.cons _ _ (.cons _ _ (.cons _ _ (.nil)))))))))))))))))))⟩
noncomputable def cutBy (l : List Nat) (ends : List Str) : List Nat := cutTo l ((l.length : Int) - ((longG l ends).length : Int))
noncomputable def numA (e : List Nat) : Int := if e = (Str.ofString "sses").cps.toList then 2 else if e = (Str.ofString "ies").cps.toList then 2 else if e = (Str.ofString "s").cps.toList then 1 else 0
noncomputable def law1 (l : List Nat) : List Nat := cutTo l ((l.length : Int) - numA (longG l endsA))
noncomputable def notIn (cs : List Str) (c : Nat) : Bool := !(cs.any fun x => x == S [c])
noncomputable def dblV (z : List Nat) : Bool := decide (1 < z.length) && ([z.getD (z.length - 1) 0] == [z.getD (z.length - 2) 0] && notIn [Str.ofString "a", Str.ofString "e", Str.ofString "i", Str.ofString "o", Str.ofString "u", Str.ofString "l", Str.ofString "s", Str.ofString "z"] (z.getD (z.length - 1) 0))
noncomputable def law2 (l : List Nat) : Option (List Nat) :=
  if longG l endsB == (Str.ofString "eed").cps.toList then (if 0 < measureF (cutBy l endsB) then some (cutBy l endsB ++ (Str.ofString "ee").cps.toList) else some l)
  else if longG l endsB == (Str.ofString "").cps.toList then some l
  else if voicedF (cutBy l endsB) then
    (if longG (cutBy l endsB) endsC == (Str.ofString "").cps.toList then
      (if dblV (cutBy l endsB) then none
       else if measureF (cutBy l endsB) = 1 then (if shortF (cutBy l endsB) then some (cutBy l endsB ++ (Str.ofString "e").cps.toList) else some (cutBy l endsB))
       else some (cutBy l endsB))
     else none)
  else some l
noncomputable def law3 (l : List Nat) : List Nat :=
  if [l.getD (l.length - 1) 0] == (Str.ofString "y").cps.toList then (if voicedF (cutTo l ((l.length : Int) - 1)) then cutTo l ((l.length : Int) - 1) ++ (Str.ofString "i").cps.toList else l) else l
noncomputable def law7 (l : List Nat) : List Nat :=
  if longG l endsD == (Str.ofString "").cps.toList then l
  else if 1 < measureF (cutBy l endsD) then
    (if longG l endsD == (Str.ofString "ion").cps.toList then (if [Str.ofString "s", Str.ofString "t"].any fun x => x == S [(cutBy l endsD).getD ((cutBy l endsD).length - 1) 0] then cutBy l endsD else l) else cutBy l endsD)
  else l
noncomputable def law8 (l : List Nat) : List Nat :=
  if [l.getD (l.length - 1) 0] == (Str.ofString "e").cps.toList then
    (if 1 < measureF (cutTo l ((l.length : Int) - 1)) then cutTo l ((l.length : Int) - 1)
     else if measureF (cutTo l ((l.length : Int) - 1)) = 1 then (if shortF (cutTo l ((l.length : Int) - 1)) then l else cutTo l ((l.length : Int) - 1)) else l)
  else l
noncomputable def law9 (l : List Nat) : List Nat :=
  if (Str.ofString "ll").cps.toList.isSuffixOf l then (if 1 < measureF l then cutTo l ((l.length : Int) - 1) else l) else l
noncomputable def lawF (l : List Nat) : Option (List Nat) :=
  if l.length < 3 then some l
  else match law2 (law1 l) with
    | none => none
    | some z => if law3 z == (Str.ofString "ization").cps.toList then none
      else some (law9 (law8 (law7 (lawStepF (lawStepF (law3 z) second) third))))
theorem cutBy_le (l : List Nat) (ends : List Str) : (cutBy l ends).length ≤ l.length := cutTo_le _ _
theorem law1_le (l : List Nat) : (law1 l).length ≤ l.length := cutTo_le _ _
theorem law1_pos {l : List Nat} (h : 3 ≤ l.length) : 1 ≤ (law1 l).length := by
  have h2 : numA (longG l endsA) ≤ 2 ∧ 0 ≤ numA (longG l endsA) := by
    unfold numA
    repeat' split
    all_goals decide
  unfold law1 cutTo
  rw [List.length_take, if_neg (by omega)]
  omega
theorem measureF_le (l : List Nat) : measureF l ≤ l.length - 1 := by
  unfold measureF
  have h := List.length_filter_le (measP (formF l)) (List.range (l.length - 1))
  rwa [List.length_range] at h
theorem voiced_pos {l : List Nat} (h : voicedF l = true) : 1 ≤ l.length := by
  cases l with
  | nil => exact absurd h (by decide)
  | cons a r => exact Nat.succ_le_succ (Nat.zero_le _)
theorem law2_len {l z : List Nat} (h : law2 l = some z) (hl : 1 ≤ l.length) : z.length ≤ l.length + 2 ∧ 1 ≤ z.length := by
  have hc := cutBy_le l endsB
  have he : (Str.ofString "ee").cps.toList.length = 2 := rfl
  have he1 : (Str.ofString "e").cps.toList.length = 1 := rfl
  unfold law2 at h
  split at h
  · split at h
    · cases h; rw [List.length_append, he]; omega
    · cases h; omega
  · split at h
    · cases h; omega
    · split at h
      · rename_i hv
        have hp := voiced_pos hv
        split at h
        · split at h
          · cases h
          · split at h
            · split at h
              · cases h; rw [List.length_append, he1]; omega
              · cases h; omega
            · cases h; omega
        · cases h
      · cases h; omega
theorem law3_len {l : List Nat} (hl : 1 ≤ l.length) : (law3 l).length ≤ l.length + 1 ∧ 1 ≤ (law3 l).length := by
  have hc := cutTo_le l ((l.length : Int) - 1)
  have he1 : (Str.ofString "i").cps.toList.length = 1 := rfl
  unfold law3
  split
  · split
    · rw [List.length_append, he1]; omega
    · omega
  · omega
theorem lawStepF_len {l : List Nat} {prs : List (Str × Str)} {n : Nat} (h : ∀ p ∈ prs, p.2.length ≤ n) (hl : 1 ≤ l.length) : (lawStepF l prs).length ≤ l.length + n ∧ 1 ≤ (lawStepF l prs).length := by
  unfold lawStepF
  dsimp only
  have hc := cutTo_le l ((l.length : Int) - ((longG l (prs.map Prod.fst)).length : Int))
  split
  · omega
  · rename_i hn
    have hm := measureF_le (cutTo l ((l.length : Int) - ((longG l (prs.map Prod.fst)).length : Int)))
    have ht : ((((pickF prs (longG l (prs.map Prod.fst))).map Prod.snd).headD (S [])).cps.toList).length ≤ n := by
      cases hc : pickF prs (longG l (prs.map Prod.fst)) with
      | nil => exact Nat.zero_le _
      | cons q r =>
        have hq : q ∈ pickF prs (longG l (prs.map Prod.fst)) := by rw [hc]; exact List.mem_cons_self
        have h2 := h q (List.mem_filter.mp hq).1
        have e : q.2.length = q.2.cps.toList.length := by simp [Str.length]
        show q.2.cps.toList.length ≤ n
        omega
    have h1 : ¬ measureF (cutTo l ((l.length : Int) - ((longG l (prs.map Prod.fst)).length : Int))) < 1 := fun c => hn (.inr c)
    rw [List.length_append]
    omega
theorem law7_len {l : List Nat} (hl : 1 ≤ l.length) : (law7 l).length ≤ l.length ∧ 1 ≤ (law7 l).length := by
  have hc := cutBy_le l endsD
  have hm := measureF_le (cutBy l endsD)
  unfold law7
  repeat' split
  all_goals omega
theorem law8_len (l : List Nat) : (law8 l).length ≤ l.length := by
  have hc := cutTo_le l ((l.length : Int) - 1)
  unfold law8
  repeat' split
  all_goals omega
noncomputable def StL1 (g : Heap) (L : Addr) (news : List (Addr × Obj)) (s : Shared) (y : List Nat) (s' : Shared) : Prop := ∃ t, StP g L news s [(Str.ofString "word", .str (S y) t)] s'
noncomputable def StQ (g : Heap) (L : Addr) (news : List (Addr × Obj)) (s : Shared) (r : Option (List Nat)) (s' : Shared) : Prop := ∃ q, r = some q ∧ StL1 g L news s q s'
theorem StQ.mk {g h' : Heap} {L : Addr} {news news' : List (Addr × Obj)} {s : Shared} {m' : Str → Option Value} {tk : Nat} {x : List Nat} {t : Tok} {r : Option (List Nat)}
    (F : Fr g L h' m') (N : News g L h' news') (hs : ∀ p ∈ news, p ∈ news') (hw : m' (Str.ofString "word") = some (.str (S x) t)) (e : r = some x) : StQ g L news s r { s with heap := h', toks := tk } := ⟨x, e, t, StP.mk1 F N hs hw⟩
noncomputable def StL2 (g : Heap) (L : Addr) (news : List (Addr × Obj)) (s : Shared) (y e : List Nat) (s' : Shared) : Prop := ∃ t u, StP g L news s [(Str.ofString "word", .str (S y) t), (Str.ofString "end", .str (S e) u)] s'
noncomputable def StL3 (g : Heap) (L : Addr) (news : List (Addr × Obj)) (s : Shared) (y e z : List Nat) (s' : Shared) : Prop := ∃ t u v, StP g L news s [(Str.ofString "word", .str (S y) t), (Str.ofString "end", .str (S e) u), (Str.ofString "left", .str (S z) v)] s'
theorem StL1.mk {g h' : Heap} {L : Addr} {news news' : List (Addr × Obj)} {s : Shared} {m' : Str → Option Value} {tk : Nat} {x y : List Nat} {t : Tok}
    (F : Fr g L h' m') (N : News g L h' news') (hs : ∀ p ∈ news, p ∈ news') (hw : m' (Str.ofString "word") = some (.str (S x) t)) (e : y = x) : StL1 g L news s y { s with heap := h', toks := tk } := ⟨t, by rw [e]; exact StP.mk1 F N hs hw⟩
theorem StL2.mk {g h' : Heap} {L : Addr} {news news' : List (Addr × Obj)} {s : Shared} {m' : Str → Option Value} {tk : Nat} {y e : List Nat} {t u : Tok}
    (F : Fr g L h' m') (N : News g L h' news') (hs : ∀ p ∈ news, p ∈ news') (hw : m' (Str.ofString "word") = some (.str (S y) t)) (he : m' (Str.ofString "end") = some (.str (S e) u)) : StL2 g L news s y e { s with heap := h', toks := tk } := ⟨t, u, StP.mk2 F N hs hw he⟩
theorem StL3.mk {g h' : Heap} {L : Addr} {news news' : List (Addr × Obj)} {s : Shared} {m' : Str → Option Value} {tk : Nat} {y e z : List Nat} {t u v : Tok}
    (F : Fr g L h' m') (N : News g L h' news') (hs : ∀ p ∈ news, p ∈ news') (hw : m' (Str.ofString "word") = some (.str (S y) t)) (he : m' (Str.ofString "end") = some (.str (S e) u)) (hz : m' (Str.ofString "left") = some (.str (S z) v)) : StL3 g L news s y e z { s with heap := h', toks := tk } := ⟨t, u, v, StP.mk3 F N hs hw he hz⟩
local macro_rules | `(tactic| walk_at "call ref") => `(tactic| ((with_reducible show wpAny _ _ (call (Value.ref 186) _) _ _ _); k_dflt (refine' Ctr.use (voiced_ctr _ _ _ _ ?hx) ?k1 ?k2 ?k3 ?k4 ?k5 ?k6 ?k7 ?k8 ?_; (case k1 => k_asm); (case k2 => k_asm); (case k3 => k_asm); (case k4 => k_asm); (case k5 => k_asm); (case k6 => rfl)); (case hx => first | omega | (simp only [cutTo, cutFrom, List.length_take, List.length_drop, List.length_append, List.length_cons, List.length_nil] at *; omega)); (case k7 => first | exact room (by assumption) (by decide) | decide | omega); (case k8 => first | exact roomU (by assumption) (by decide) | decide | omega); (intro v9 nx9 h9 tk9 hP9 hO9 F9 N9); (obtain ⟨hv9, hn9⟩ := hP9); (subst hv9); (subst hn9); (try dsimp only); (try simp only [List.nil_append, List.cons_append] at N9)))
local macro_rules | `(tactic| walk_at "call ref") => `(tactic| ((with_reducible show wpAny _ _ (call (Value.ref 193) _) _ _ _); k_dflt (refine' Ctr.use (short_ctr _ _ _ _ ?hx) ?k1 ?k2 ?k3 ?k4 ?k5 ?k6 ?k7 ?k8 ?_; (case k1 => k_asm); (case k2 => k_asm); (case k3 => k_asm); (case k4 => k_asm); (case k5 => k_asm); (case k6 => rfl)); (case hx => first | omega | (simp only [cutTo, cutFrom, List.length_take, List.length_drop, List.length_append, List.length_cons, List.length_nil] at *; omega)); (case k7 => first | exact room (by assumption) (by decide) | decide | omega); (case k8 => first | exact roomU (by assumption) (by decide) | decide | omega); (intro v9 nx9 h9 tk9 hP9 hO9 F9 N9); (obtain ⟨hv9, hn9⟩ := hP9); (subst hv9); (subst hn9); (try dsimp only); (try simp only [List.nil_append, List.cons_append] at N9)))
local macro_rules | `(tactic| walk_at "call ref") => `(tactic| ((with_reducible show wpAny _ _ (call (Value.ref 179) _) _ _ _); k_dflt (refine' Ctr.use (measure_ctr _ _ _ _ ?hx) ?k1 ?k2 ?k3 ?k4 ?k5 ?k6 ?k7 ?k8 ?_; (case k1 => k_asm); (case k2 => k_asm); (case k3 => k_asm); (case k4 => k_asm); (case k5 => k_asm); (case k6 => rfl)); (case hx => first | omega | (simp only [cutTo, cutFrom, List.length_take, List.length_drop, List.length_append, List.length_cons, List.length_nil] at *; omega)); (case k7 => first | exact room (by assumption) (by decide) | decide | omega); (case k8 => first | exact roomU (by assumption) (by decide) | decide | omega); (intro v9 nx9 h9 tk9 hP9 hO9 F9 N9); (obtain ⟨t9, hv9, hn9⟩ := hP9); (subst hv9); (subst hn9); (try dsimp only); (try simp only [List.nil_append, List.cons_append] at N9)))
local macro_rules | `(tactic| walk_at "call ref") => `(tactic| ((with_reducible show wpAny _ _ (call (Value.ref 200) _) _ _ _); k_dflt (refine' Ctr.use (lawlong_ctr _ _ _ _ _ _ endsA _ ?hx ?hm ?hs ?hb) ?k1 ?k2 ?k3 ?k4 ?k5 ?k6 ?k7 ?k8 ?_; (case k1 => k_asm); (case k2 => k_asm); (case k3 => k_asm); (case k4 => k_asm); (case k5 => k_asm); (case k6 => rfl); (case hm => refine Or.inl ?_; exact List.Mem.head _); (case hs => repeat' (first | exact StrsAre.nil | apply StrsAre.cons)); (case hb => decide)); (case hx => first | omega | (simp only [cutTo, cutFrom, List.length_take, List.length_drop, List.length_append, List.length_cons, List.length_nil] at *; omega));  (case k7 => first | exact room (by assumption) (by decide) | decide | omega); (case k8 => first | exact roomU (by assumption) (by decide) | decide | omega); (intro v9 nx9 h9 tk9 hP9 hO9 F9 N9); (obtain ⟨t9, hv9, hn9⟩ := hP9); (subst hv9); (subst hn9); (try dsimp only); (try simp only [List.nil_append, List.cons_append] at N9)))
local macro_rules | `(tactic| walk_at "call ref") => `(tactic| ((with_reducible show wpAny _ _ (call (Value.ref 200) _) _ _ _); k_dflt (refine' Ctr.use (lawlong_ctr _ _ _ _ _ _ endsB _ ?hx ?hm ?hs ?hb) ?k1 ?k2 ?k3 ?k4 ?k5 ?k6 ?k7 ?k8 ?_; (case k1 => k_asm); (case k2 => k_asm); (case k3 => k_asm); (case k4 => k_asm); (case k5 => k_asm); (case k6 => rfl); (case hm => refine Or.inl ?_; exact List.Mem.head _); (case hs => repeat' (first | exact StrsAre.nil | apply StrsAre.cons)); (case hb => decide)); (case hx => first | omega | (simp only [cutTo, cutFrom, List.length_take, List.length_drop, List.length_append, List.length_cons, List.length_nil] at *; omega));  (case k7 => first | exact room (by assumption) (by decide) | decide | omega); (case k8 => first | exact roomU (by assumption) (by decide) | decide | omega); (intro v9 nx9 h9 tk9 hP9 hO9 F9 N9); (obtain ⟨t9, hv9, hn9⟩ := hP9); (subst hv9); (subst hn9); (try dsimp only); (try simp only [List.nil_append, List.cons_append] at N9)))
local macro_rules | `(tactic| walk_at "call ref") => `(tactic| ((with_reducible show wpAny _ _ (call (Value.ref 200) _) _ _ _); k_dflt (refine' Ctr.use (lawlong_ctr _ _ _ _ _ _ endsC _ ?hx ?hm ?hs ?hb) ?k1 ?k2 ?k3 ?k4 ?k5 ?k6 ?k7 ?k8 ?_; (case k1 => k_asm); (case k2 => k_asm); (case k3 => k_asm); (case k4 => k_asm); (case k5 => k_asm); (case k6 => rfl); (case hm => refine Or.inl ?_; exact List.Mem.head _); (case hs => repeat' (first | exact StrsAre.nil | apply StrsAre.cons)); (case hb => decide)); (case hx => first | omega | (simp only [cutTo, cutFrom, List.length_take, List.length_drop, List.length_append, List.length_cons, List.length_nil] at *; omega));  (case k7 => first | exact room (by assumption) (by decide) | decide | omega); (case k8 => first | exact roomU (by assumption) (by decide) | decide | omega); (intro v9 nx9 h9 tk9 hP9 hO9 F9 N9); (obtain ⟨t9, hv9, hn9⟩ := hP9); (subst hv9); (subst hn9); (try dsimp only); (try simp only [List.nil_append, List.cons_append] at N9)))
local macro_rules | `(tactic| walk_at "call ref") => `(tactic| ((with_reducible show wpAny _ _ (call (Value.ref 200) _) _ _ _); k_dflt (refine' Ctr.use (lawlong_ctr _ _ _ _ 167 _ endsD 0 ?hx (Or.inr ?hm) ?hs ?hb) ?k1 ?k2 ?k3 ?k4 ?k5 ?k6 ?k7 ?k8 ?_; (case k1 => k_asm); (case k2 => k_asm); (case k3 => k_asm); (case k4 => k_asm); (case k5 => k_asm); (case k6 => rfl); (case hm => assumption); (case hs => assumption); (case hb => decide)); (case hx => first | omega | (simp only [cutTo, cutFrom, List.length_take, List.length_drop, List.length_append, List.length_cons, List.length_nil] at *; omega));  (case k7 => first | exact room (by assumption) (by decide) | decide | omega); (case k8 => first | exact roomU (by assumption) (by decide) | decide | omega); (intro v9 nx9 h9 tk9 hP9 hO9 F9 N9); (obtain ⟨t9, hv9, hn9⟩ := hP9); (subst hv9); (subst hn9); (try dsimp only); (try simp only [List.nil_append, List.cons_append] at N9)))
local macro_rules | `(tactic| walk_at "call ref") => `(tactic| ((with_reducible show wpAny _ _ (call (Value.ref 205) _) _ _ _); k_dflt (refine' Ctr.use (lawstep_ctr _ _ _ _ 158 vs2 second 0 ?hx (tab2_list _) (tab2_pairs _) ?hb ?hl) ?k1 ?k2 ?k3 ?k4 ?k5 ?k6 ?k7 ?k8 ?_; (case k1 => k_asm); (case k2 => k_asm); (case k3 => k_asm); (case k4 => k_asm); (case k5 => k_asm); (case k6 => rfl); (case hb => decide); (case hl => decide));  (case hx => first | omega | (simp only [cutTo, cutFrom, List.length_take, List.length_drop, List.length_append, List.length_cons, List.length_nil] at *; omega)); (case k7 => first | exact room (by assumption) (by decide) | decide | omega); (case k8 => first | exact roomU (by assumption) (by decide) | decide | omega); (intro v9 nx9 h9 tk9 hP9 hO9 F9 N9); (obtain ⟨t9, hv9, hn9⟩ := hP9); (subst hv9); (subst hn9); (try dsimp only); (try simp only [List.nil_append, List.cons_append] at N9)))
local macro_rules | `(tactic| walk_at "call ref") => `(tactic| ((with_reducible show wpAny _ _ (call (Value.ref 205) _) _ _ _); k_dflt (refine' Ctr.use (lawstep_ctr _ _ _ _ 166 vs3 third 0 ?hx (tab3_list _) (tab3_pairs _) ?hb ?hl) ?k1 ?k2 ?k3 ?k4 ?k5 ?k6 ?k7 ?k8 ?_; (case k1 => k_asm); (case k2 => k_asm); (case k3 => k_asm); (case k4 => k_asm); (case k5 => k_asm); (case k6 => rfl); (case hb => decide); (case hl => decide));  (case hx => first | omega | (simp only [cutTo, cutFrom, List.length_take, List.length_drop, List.length_append, List.length_cons, List.length_nil] at *; omega)); (case k7 => first | exact room (by assumption) (by decide) | decide | omega); (case k8 => first | exact roomU (by assumption) (by decide) | decide | omega); (intro v9 nx9 h9 tk9 hP9 hO9 F9 N9); (obtain ⟨t9, hv9, hn9⟩ := hP9); (subst hv9); (subst hn9); (try dsimp only); (try simp only [List.nil_append, List.cons_append] at N9)))
local macro_rules | `(tactic| walk_at "subscriptTail Dict cons cons Name ref str") => `(tactic| refine Hold.mk ?_)
local macro_rules | `(tactic| walk_at "zzdict") => `(tactic| (k_dflt (refine kba_turn (value' := PySem.Expr.Name (PySem.Str.ofString "_") ⟨0, 0, 0, 0⟩) (fun _ => rfl) ?_; refine' item_strTab ?k1 ?k2 ?_; (case k1 => k_tabat); (case k2 => rfl)); (intro v9 hv9); (dict_open hv9); (try dsimp only)))
theorem lawstemmed_ctr (w : World) (news : List (Addr × Obj)) (l : List Nat) (tx : Tok) (hx : l.length ≤ 100) :
    Ctr w 4 212 news [.str (S l) tx] fun v nx => (lawF l = none ∧ v = .none ∧ nx = []) ∨ ∃ r t, lawF l = some r ∧ v = .str (S r) t ∧ nx = [] := by
  w_top off
  have hfill : PySem.Challenge.rw_iv0075_01 = PySem.Challenge.rw_iv0075_01 ∧ frag.heap_1 = frag.heap_1 := by
    k_fill
    exact ⟨rfl, rfl⟩
  refine' Ctr.intro [(Str.ofString "word", .str (S l) tx)] ?k1 ?k2 ?k3 ?k4 ?k5 ?k6 ?k7 ?k8 ?_
  case k1 => k_is
  case k2 => k_is
  case k3 => rfl
  case k4 => exact locs rfl
  case k5 => rfl
  case k6 => rfl
  case k7 => rfl
  case k8 => decide
  intro mean mg mb dp un gd outer A₀ base g L s B F X N T hdp hun
  obtain ⟨vs4, tab4_list, tab4_strs⟩ := tab4_ex w
  try k_fold
  refine cut1 (StC (3 ≤ l.length) g L news s [(Str.ofString "word", .str (S l) tx)]) ?_ ?_
  · k_steps
    · exact BodyPost.plain F N (fun _ h => h) (.inr ⟨l, tx, by unfold lawF; rw [if_pos (by omega)], rfl, rfl⟩)
    · exact ⟨by omega, StP.mk1 F N (fun _ h => h) rfl⟩
  rintro s1 ⟨h3, h1, tk1, u1, rfl, F1, N1⟩
  dsimp only [kstB] at F1
  clear F N
  refine cut1 (StL2 g L news s l (longG l endsA)) ?_ ?_
  · k_steps
    (rename Fr _ _ _ _ => F9); (rename News _ _ _ _ => N9)
    exact StL2.mk F9 N9 (by intro p hp; first | exact hp | exact .tail _ hp | exact .tail _ (.tail _ hp)) rfl rfl
  rintro s2 ⟨t2, e2, h2, tk2, u2, rfl, F2, N2⟩
  dsimp only [kstB] at F2
  clear F1 N1
  refine cut1 (StL1 g L news s (law1 l)) ?_ ?_
  · have hcs : ∃ y, (y = Str.ofString "sses" ∨ y = Str.ofString "ies" ∨ y = Str.ofString "ss" ∨ y = Str.ofString "s" ∨ y = Str.ofString "") ∧ longG l endsA = y.cps.toList := by
      rcases longG_memA (l := l) endsA [] with h | ⟨y, hy, h⟩
      · exact ⟨Str.ofString "", by simp, h⟩
      · refine ⟨y, ?_, h.symm⟩
        simp only [endsA, List.mem_cons, List.not_mem_nil, or_false] at hy
        rcases hy with h | h | h | h
        · exact .inl h
        · exact .inr (.inl h)
        · exact .inr (.inr (.inl h))
        · exact .inr (.inr (.inr (.inl h)))
    obtain ⟨y, hy, hgy⟩ := hcs
    have hl1 : law1 l = cutTo l ((l.length : Int) - numA y.cps.toList) := by unfold law1; rw [hgy]
    rw [hgy, ← S_of y] at F2
    rw [hl1]
    clear hl1 hgy
    rcases hy with rfl | rfl | rfl | rfl | rfl
    all_goals k_steps
    all_goals (unfold Hold; dsimp only at *)
    all_goals walk_at "zzdict"
    all_goals k_steps
    all_goals (rename Fr _ _ _ _ => F9); (rename News _ _ _ _ => N9)
    all_goals exact StL1.mk F9 N9 (by intro p hp; first | exact hp | exact .tail _ hp | exact .tail _ (.tail _ hp)) rfl rfl
  have hx3 := law1_le l
  have hp3 := law1_pos h3
  have hst : lawF l = match law2 (law1 l) with
    | none => none
    | some z => if law3 z == (Str.ofString "ization").cps.toList then none
      else some (law9 (law8 (law7 (lawStepF (lawStepF (law3 z) second) third)))) := by
    unfold lawF; rw [if_neg (by omega)]
  generalize hl3 : law1 l = l3 at hst hx3 hp3
  rintro s3 ⟨t3, h3, tk3, u3, rfl, F3, N3⟩
  dsimp only [kstB] at F3
  clear F2 N2
  refine cut1 (StL2 g L news s l3 (longG l3 endsB)) ?_ ?_
  · k_steps
    (rename Fr _ _ _ _ => F9); (rename News _ _ _ _ => N9)
    exact StL2.mk F9 N9 (by intro p hp; first | exact hp | exact .tail _ hp | exact .tail _ (.tail _ hp)) rfl rfl
  rintro s4 ⟨t4, e4, h4, tk4, u4, rfl, F4, N4⟩
  dsimp only [kstB] at F4
  clear F3 N3
  refine cut1 (StL3 g L news s l3 (longG l3 endsB) (cutBy l3 endsB)) ?_ ?_
  · have hg : (longG l3 endsB).length ≤ 1000 := longG_len _ _ (Nat.zero_le _) (by decide)
    k_steps
    (rename Fr _ _ _ _ => F9); (rename News _ _ _ _ => N9)
    exact StL3.mk F9 N9 (by intro p hp; first | exact hp | exact .tail _ hp | exact .tail _ (.tail _ hp)) rfl rfl rfl
  have hc5 := cutBy_le l3 endsB
  rintro s5 ⟨t5, e5, z5, h5, tk5, u5, rfl, F5, N5⟩
  dsimp only [kstB] at F5
  clear F4 N4
  have hl2 : law2 l3 = law2 l3 := rfl
  conv at hl2 => rhs; unfold law2
  generalize hz5 : cutBy l3 endsB = z at hc5 F5 hl2
  generalize hg5 : longG l3 endsB = e at F5 hl2
  refine cut1 (StQ g L news s (law2 l3)) ?_ ?_
  · k_steps
    all_goals (try dsimp only)
    all_goals (rename Fr _ _ _ _ => F9); (rename News _ _ _ _ => N9)
    all_goals first
      | refine StQ.mk F9 N9 (by intro p hp; first | exact hp | exact .tail _ hp | exact .tail _ (.tail _ hp)) rfl ?_
      | refine BodyPost.plain F9 N9 (by intro p hp; first | exact hp | exact .tail _ hp | exact .tail _ (.tail _ hp)) (.inl ⟨?_, rfl, rfl⟩)
    all_goals (clear F9 N9)
    all_goals ((try (have hm0 : 0 < measureF z := by omega)); (try (have hm1 : ¬ 0 < measureF z := by omega)); (try (have hm2 : measureF z = 1 := by omega)); (try (have hm3 : ¬ measureF z = 1 := by omega)); (try (have hd1 : decide (1 < z.length) = true := decide_eq_true (by omega))); (try (have hd2 : decide (1 < z.length) = false := decide_eq_false (by omega))))
    all_goals (simp only [S_cps, show (-1 : Int).natAbs = 1 from rfl, show (-2 : Int).natAbs = 2 from rfl] at *)
    all_goals first
      | (rw [hl2]; simp only [*, dblV, notIn, Bool.and_true, Bool.true_and, Bool.false_and, Bool.and_false, if_true, if_false, Bool.false_eq_true, Bool.not_true, Bool.not_false]; done)
      | (have hn : law2 l3 = none := by (rw [hl2]; simp only [*, dblV, notIn, Bool.and_true, Bool.true_and, Bool.false_and, Bool.and_false, if_true, if_false, Bool.false_eq_true, Bool.not_true, Bool.not_false]; done)
         rw [hst, hn])
  rintro s6 ⟨l6, hq6, t6, h6, tk6, u6, rfl, F6, N6⟩
  dsimp only [kstB] at F6
  have hx6 := law2_len hq6 hp3
  rw [hq6] at hst
  dsimp only at hst
  clear F5 N5 hl2
  refine cut1 (StL1 g L news s (law3 l6)) ?_ ?_
  · k_steps
    all_goals ((try dsimp only); (rename Fr _ _ _ _ => F9); (rename News _ _ _ _ => N9))
    all_goals refine StL1.mk F9 N9 (by intro p hp; first | exact hp | exact .tail _ hp | exact .tail _ (.tail _ hp)) rfl ?_
    all_goals (clear F9 N9; simp only [S_cps, show (-1 : Int).natAbs = 1 from rfl, show (-2 : Int).natAbs = 2 from rfl] at *)
    all_goals (unfold law3; simp only [*, dblV, notIn, Bool.and_true, Bool.true_and, Bool.false_and, Bool.and_false, if_true, if_false, Bool.false_eq_true, Bool.not_true, Bool.not_false])
  have hx7 := law3_len hx6.2
  generalize hl7 : law3 l6 = l7 at hst hx7
  rintro s7 ⟨t7, h7, tk7, u7, rfl, F7, N7⟩
  dsimp only [kstB] at F7
  clear F6 N6
  refine cut1 (fun s' => StQ g L news s (if l7 == (Str.ofString "ization").cps.toList then none else some l7) s') ?_ ?_
  · k_steps
    all_goals ((try dsimp only); (rename Fr _ _ _ _ => F9); (rename News _ _ _ _ => N9))
    all_goals first
      | refine StQ.mk F9 N9 (by intro p hp; first | exact hp | exact .tail _ hp | exact .tail _ (.tail _ hp)) rfl ?_
      | refine BodyPost.plain F9 N9 (by intro p hp; first | exact hp | exact .tail _ hp | exact .tail _ (.tail _ hp)) (.inl ⟨?_, rfl, rfl⟩)
    all_goals (clear F9 N9)
    all_goals (try rw [hst])
    all_goals (rename (l7 == _) = _ => h9; rw [h9]; rfl)
  rintro s8 ⟨l8, hq8, t8, h8, tk8, u8, rfl, F8, N8⟩
  dsimp only [kstB] at F8
  clear F7 N7
  have hz8 : l7 = l8 ∧ lawF l = some (law9 (law8 (law7 (lawStepF (lawStepF l7 second) third)))) := by
    split at hq8
    · cases hq8
    · rename_i hne
      cases hq8
      refine ⟨rfl, ?_⟩
      rw [hst, if_neg hne]
  obtain ⟨rfl, hst⟩ := hz8
  refine cut1 (StL1 g L news s (lawStepF l7 second)) ?_ ?_
  · k_steps
    (rename Fr _ _ _ _ => F99); (rename News _ _ _ _ => N99)
    exact StL1.mk F99 N99 (by intro p hp; first | exact hp | exact .tail _ hp | exact .tail _ (.tail _ hp)) rfl rfl
  have hx9 := lawStepF_len (n := 10) (prs := second) (by decide) hx7.2
  generalize hl9 : lawStepF l7 second = l9 at hst hx9
  rintro s9 ⟨t9, h9, tk9, u9, rfl, F9, N9⟩
  dsimp only [kstB] at F9
  clear F8 N8
  refine cut1 (StL1 g L news s (lawStepF l9 third)) ?_ ?_
  · k_steps
    (rename Fr _ _ _ _ => F99); (rename News _ _ _ _ => N99)
    exact StL1.mk F99 N99 (by intro p hp; first | exact hp | exact .tail _ hp | exact .tail _ (.tail _ hp)) rfl rfl
  have hx10 := lawStepF_len (n := 10) (prs := third) (by decide) hx9.2
  generalize hl10 : lawStepF l9 third = l10 at hst hx10
  rintro s10 ⟨t10, h10, tk10, u10, rfl, F10, N10⟩
  dsimp only [kstB] at F10
  clear F9 N9
  refine cut1 (StL2 g L news s l10 (longG l10 endsD)) ?_ ?_
  · k_steps
    (rename Fr _ _ _ _ => F9); (rename News _ _ _ _ => N9)
    exact StL2.mk F9 N9 (by intro p hp; first | exact hp | exact .tail _ hp | exact .tail _ (.tail _ hp)) rfl rfl
  rintro s11 ⟨t11, e11, h11, tk11, u11, rfl, F11, N11⟩
  dsimp only [kstB] at F11
  clear F10 N10
  refine cut1 (StL3 g L news s l10 (longG l10 endsD) (cutBy l10 endsD)) ?_ ?_
  · have hg : (longG l10 endsD).length ≤ 1000 := longG_len _ _ (Nat.zero_le _) (by decide)
    k_steps
    (rename Fr _ _ _ _ => F9); (rename News _ _ _ _ => N9)
    exact StL3.mk F9 N9 (by intro p hp; first | exact hp | exact .tail _ hp | exact .tail _ (.tail _ hp)) rfl rfl rfl
  have hc12 := cutBy_le l10 endsD
  have hm12 := measureF_le (cutBy l10 endsD)
  rintro s12 ⟨t12, e12, z12, h12, tk12, u12, rfl, F12, N12⟩
  dsimp only [kstB] at F12
  clear F11 N11
  have hl7' : law7 l10 = law7 l10 := rfl
  conv at hl7' => rhs; unfold law7
  generalize hzz : cutBy l10 endsD = z2 at hc12 hm12 F12 hl7'
  generalize hge : longG l10 endsD = e2' at F12 hl7'
  refine cut1 (StL1 g L news s (law7 l10)) ?_ ?_
  · k_steps
    all_goals ((try dsimp only); (rename Fr _ _ _ _ => F9); (rename News _ _ _ _ => N9))
    all_goals refine StL1.mk F9 N9 (by intro p hp; first | exact hp | exact .tail _ hp | exact .tail _ (.tail _ hp)) rfl ?_
    all_goals (clear F9 N9; (try (have hm0 : 0 < measureF z2 := by omega)); (try (have hm1 : ¬ 0 < measureF z2 := by omega)); (try (have hm2 : measureF z2 = 1 := by omega)); (try (have hm3 : ¬ measureF z2 = 1 := by omega)); (try (have hm4 : 1 < measureF z2 := by omega)); (try (have hm5 : ¬ 1 < measureF z2 := by omega)))
    all_goals (simp only [S_cps, show (-1 : Int).natAbs = 1 from rfl, show (-2 : Int).natAbs = 2 from rfl] at *)
    all_goals (rw [hl7']; simp only [*, dblV, notIn, Bool.and_true, Bool.true_and, Bool.false_and, Bool.and_false, if_true, if_false, Bool.false_eq_true, Bool.not_true, Bool.not_false])
  have hx13 := law7_len hx10.2
  generalize hl13 : law7 l10 = l13 at hst hx13
  rintro s13 ⟨t13, h13, tk13, u13, rfl, F13, N13⟩
  dsimp only [kstB] at F13
  clear F12 N12
  refine cut1 (StL1 g L news s (law8 l13)) ?_ ?_
  · k_steps
    all_goals ((try dsimp only); (rename Fr _ _ _ _ => F9); (rename News _ _ _ _ => N9))
    all_goals refine StL1.mk F9 N9 (by intro p hp; first | exact hp | exact .tail _ hp | exact .tail _ (.tail _ hp)) rfl ?_
    all_goals (clear F9 N9; (try (have hm0 : 0 < measureF (cutTo l13 (↑l13.length - 1)) := by omega)); (try (have hm1 : ¬ 0 < measureF (cutTo l13 (↑l13.length - 1)) := by omega)); (try (have hm2 : measureF (cutTo l13 (↑l13.length - 1)) = 1 := by omega)); (try (have hm3 : ¬ measureF (cutTo l13 (↑l13.length - 1)) = 1 := by omega)); (try (have hm4 : 1 < measureF (cutTo l13 (↑l13.length - 1)) := by omega)); (try (have hm5 : ¬ 1 < measureF (cutTo l13 (↑l13.length - 1)) := by omega)))
    all_goals (simp only [S_cps, show (-1 : Int).natAbs = 1 from rfl, show (-2 : Int).natAbs = 2 from rfl] at *)
    all_goals (unfold law8; simp only [*, Nat.lt_irrefl, dblV, notIn, Bool.and_true, Bool.true_and, Bool.false_and, Bool.and_false, if_true, if_false, Bool.false_eq_true, Bool.not_true, Bool.not_false])
  have hx14 := law8_len l13
  generalize hl14 : law8 l13 = l14 at hst hx14
  rintro s14 ⟨t14, h14, tk14, u14, rfl, F14, N14⟩
  dsimp only [kstB] at F14
  clear F13 N13
  refine cut1 (StL1 g L news s (law9 l14)) ?_ ?_
  · k_steps
    all_goals ((try dsimp only); (rename Fr _ _ _ _ => F9); (rename News _ _ _ _ => N9))
    all_goals refine StL1.mk F9 N9 (by intro p hp; first | exact hp | exact .tail _ hp | exact .tail _ (.tail _ hp)) rfl ?_
    all_goals (clear F9 N9; (try (have hm0 : 0 < measureF l14 := by omega)); (try (have hm1 : ¬ 0 < measureF l14 := by omega)); (try (have hm2 : measureF l14 = 1 := by omega)); (try (have hm3 : ¬ measureF l14 = 1 := by omega)); (try (have hm4 : 1 < measureF l14 := by omega)); (try (have hm5 : ¬ 1 < measureF l14 := by omega)))
    all_goals (unfold law9; simp only [*, dblV, notIn, Bool.and_true, Bool.true_and, Bool.false_and, Bool.and_false, if_true, if_false, Bool.false_eq_true, Bool.not_true, Bool.not_false])
  rintro s15 ⟨t15, h15, tk15, u15, rfl, F15, N15⟩
  dsimp only [kstB] at F15
  k_steps
  (rename Fr _ _ _ _ => F9); (rename News _ _ _ _ => N9)
  exact BodyPost.plain F9 N9 (fun _ h => h) (.inr ⟨_, t15, hst, rfl, rfl⟩)
end
section
local macro_rules | `(tactic| walk_at "call builtin:len") => `(tactic| ((with_reducible refine op_len ?hb ?_); (case hb => first | omega | (simp only [List.length_take, List.length_append, List.length_cons, List.length_nil, cutTo, cutFrom, List.length_drop] at *; omega)); intro _ _; (try dsimp only)))
local macro_rules | `(tactic| walk_at "subscriptTail Name Name str int") => `(tactic| ((with_reducible refine op_item _ ?hi ?hb ?_); (case hi => omega); (case hb => omega); intro _ _; (try dsimp only)))
local macro_rules | `(tactic| walk_at "subscriptTail Name BinOp str int") => `(tactic| ((with_reducible refine op_itemZ ?h0 ?hi ?hb ?_); (case h0 => first | omega | (simp only [decide_eq_true_eq, beq_iff_eq] at *; omega)); (case hi => first | omega | (simp only [decide_eq_true_eq, beq_iff_eq] at *; omega)); (case hb => omega); intro _ _; (try dsimp only)))
local macro_rules | `(tactic| walk_at "subscriptTail Name Constant str int") => `(tactic| ((with_reducible refine op_itemZ ?h0 ?hi ?hb ?_); (case h0 => first | decide | omega); (case hi => first | omega | (simp only [decide_eq_true_eq, beq_iff_eq] at *; omega)); (case hb => omega); intro _ _; (try dsimp only)))
local macro_rules | `(tactic| walk_at "compareOp In str str") => `(tactic| (with_reducible refine op_in ?_))
local macro_rules | `(tactic| walk_at "compareOp NotIn str str") => `(tactic| (with_reducible refine op_notin ?_))
local macro_rules | `(tactic| walk_at "compareOp Eq str str") => `(tactic| (with_reducible refine op_eq ?_))
local macro_rules | `(tactic| walk_at "call builtin:str.endswith") => `(tactic| ((with_reducible refine SC.endswith ?_); (try rw [endswith_S])))
local macro_rules | `(tactic| walk_at "subscriptTail Name Slice str ref") => `(tactic| ((with_reducible show wpAny _ _ (subscriptTail _ (Expr.Slice none (some _) none _) _ _) _ _ _); (with_reducible rename Fr _ _ _ _ => F'); (with_reducible rename News _ _ _ _ => N'); (refine op_to (s := ⟨_, _, _, _, _⟩) F' N' ?hb ?_); (case hb => omega); intro _ _ _ _ _; (try dsimp only)))
local macro_rules | `(tactic| walk_at "subscriptTail Name Slice str ref") => `(tactic| ((with_reducible show wpAny _ _ (subscriptTail _ (Expr.Slice (some _) none none _) _ _) _ _ _); (with_reducible rename Fr _ _ _ _ => F'); (with_reducible rename News _ _ _ _ => N'); (refine op_from (s := ⟨_, _, _, _, _⟩) F' N' ?hb ?_); (case hb => omega); intro _ _ _ _ _; (try dsimp only)))
local macro_rules | `(tactic| walk_at "subscriptTail Name UnaryOp str int") => `(tactic| ((with_reducible refine op_itemN ?h0 ?hi ?hb ?_); (case h0 => decide); (case hi => first | omega | (simp only [decide_eq_true_eq, beq_iff_eq] at *; omega)); (case hb => omega); intro _ _; (try dsimp only)))
local macro_rules | `(tactic| walk_at "binaryOp Add str str") => `(tactic| ((with_reducible refine op_add ?hb ?hy ?_); (case hb => omega); (case hy => first | decide | (rw [S_cps]; omega)); intro _ _; (try simp only [S_cps]); (try dsimp only)))
local macro_rules | `(tactic| walk_at "inplaceOp Add str str") => `(tactic| ((with_reducible refine op_iadd ?hb ?hy ?_); (case hb => omega); (case hy => first | decide | (rw [S_cps]; omega)); intro _ _; (try simp only [S_cps]); (try dsimp only)))
local macro_rules | `(tactic| walk_at "compareOp NotEq str str") => `(tactic| (with_reducible refine op_ne ?_))
local macro_rules | `(tactic| walk_at "subscriptTail Name UnaryOp str int") => `(tactic| ((with_reducible refine op_itemN ?h0 ?hi ?hb ?_); (case h0 => decide); (case hi => exact pos_of_ne (by assumption)); (case hb => omega); intro _ _; (try dsimp only)))
local macro_rules | `(tactic| walk_at "subscriptTail Name Name str int") => `(tactic| ((with_reducible refine op_itemZ ?h0 ?hi ?hb ?_); (case h0 => omega); (case hi => omega); (case hb => omega); intro _ _; (try dsimp only)))
local macro_rules | `(tactic| walk_at "subscriptTail Name Name str int") => `(tactic| ((with_reducible refine op_item _ ?hi ?hb ?_); (case hi => omega); (case hb => omega); intro _ _; (try dsimp only)))
local macro_rules | `(tactic| walk_at "binaryOp Add str str") => `(tactic| ((with_reducible refine op_add_l ?hb ?hy ?_); (case hb => first | omega | (simp only [cutTo, cutFrom, List.length_take, List.length_drop]; omega)); (case hy => first | decide | (rw [S_cps]; omega)); intro _ _; (try simp only [S_cps]); (try dsimp only)))
local macro_rules | `(tactic| walk_at "binaryOp Add str str") => `(tactic| ((with_reducible refine op_add ?hb ?hy ?_); (case hb => first | omega | (simp only [cutTo, cutFrom, List.length_take, List.length_drop]; omega)); (case hy => first | decide | (rw [S_cps]; first | omega | (simp only [List.length_cons, List.length_nil]; omega))); intro _ _; (try simp only [S_cps]); (try dsimp only)))
noncomputable def ends56 : List Str := [Str.ofString "s", Str.ofString "es", Str.ofString "ed", Str.ofString "ing", Str.ofString "eed", Str.ofString "sses", Str.ofString "ies", Str.ofString "ational", Str.ofString "tional", Str.ofString "enci", Str.ofString "anci", Str.ofString "izer", Str.ofString "bli", Str.ofString "alli", Str.ofString "entli", Str.ofString "eli", Str.ofString "ousli", Str.ofString "ization", Str.ofString "ation", Str.ofString "ator", Str.ofString "alism", Str.ofString "iveness", Str.ofString "fulness", Str.ofString "ousness", Str.ofString "aliti", Str.ofString "iviti", Str.ofString "biliti", Str.ofString "logi", Str.ofString "icate", Str.ofString "ative", Str.ofString "alize", Str.ofString "iciti", Str.ofString "ical", Str.ofString "ful", Str.ofString "ness", Str.ofString "al", Str.ofString "ance", Str.ofString "ence", Str.ofString "er", Str.ofString "ic", Str.ofString "ible", Str.ofString "able", Str.ofString "ant", Str.ofString "ement", Str.ofString "ment", Str.ofString "ent", Str.ofString "ion", Str.ofString "ou", Str.ofString "ism", Str.ofString "ate", Str.ofString "iti", Str.ofString "ous", Str.ofString "ive", Str.ofString "ize", Str.ofString "e", Str.ofString "ll"]
theorem ends_ctr (w : World) (news : List (Addr × Obj))  :
    Ctr w 1 136 news [] fun v nx => ∃ vs d, v = .ref d ∧ nx = [(d, listOf vs.toArray 0)] ∧ StrsAre vs ends56 := by
  w_top off
  have hfill : PySem.Challenge.rw_iv0075_01 = PySem.Challenge.rw_iv0075_01 ∧ frag.heap_1 = frag.heap_1 := by
    k_fill
    exact ⟨rfl, rfl⟩
  refine' Ctr.intro [] ?k1 ?k2 ?k3 ?k4 ?k5 ?k6 ?k7 ?k8 ?_
  case k1 => k_is
  case k2 => k_is
  case k3 => rfl
  case k4 => exact locs rfl
  case k5 => rfl
  case k6 => rfl
  case k7 => rfl
  case k8 => decide
  intro mean mg mb dp un gd outer A₀ base g L s B F X N T hdp hun
  try k_fold
  k_steps
  (rename Fr _ _ _ _ => F9); (rename News _ _ _ _ => N9); (rename ∀ _, _ => l9)
  exact BodyPost.one F9 N9 l9 ⟨_, _, rfl, rfl, .cons _ _ (.cons _ _ (.cons _ _ (.cons _ _ (.cons _ _ (.cons _ _ (.cons _ _ (.cons _ _ (.cons _ _ (.cons _ _ (.cons _ _ (.cons _ _ (.cons _ _ (.cons _ _ (.cons _ _ (.cons _ _ (.cons _ _ (.cons _ _ (.cons _ _ (.cons _ _ (.cons _ _ (.cons _ _ (.cons _ _ (.cons _ _ (.cons _ _ (.cons _ _ (.cons _ _ (.cons _ _ (.cons _ _ (.cons _ _ (.cons _ _ (.cons _ _ (.cons _ _ (.cons _ _ (.cons _ _ (.cons _ _ (.cons _ _ (.cons _ _ (.cons _ _ (.cons _ _ (.cons _ _ (.cons _ _ (.cons _ _ (.cons _ _ (.cons _ _ (.cons _ _ (.cons _ _ (.cons _ _ (.cons _ _ (.cons _ _ (.cons _ _ (.cons _ _ (.cons _ _ (.cons _ _ (.cons _ _ (.cons _ _ (.nil))))))))))))))))))))))))))))))))))))))))))))))))))))))))⟩
end
section
local macro_rules | `(tactic| walk_at "call builtin:len") => `(tactic| ((with_reducible refine op_len ?hb ?_); (case hb => first | omega | (simp only [List.length_take, List.length_append, List.length_cons, List.length_nil, cutTo, cutFrom, List.length_drop] at *; omega)); intro _ _; (try dsimp only)))
local macro_rules | `(tactic| walk_at "subscriptTail Name Name str int") => `(tactic| ((with_reducible refine op_item _ ?hi ?hb ?_); (case hi => omega); (case hb => omega); intro _ _; (try dsimp only)))
local macro_rules | `(tactic| walk_at "subscriptTail Name BinOp str int") => `(tactic| ((with_reducible refine op_itemZ ?h0 ?hi ?hb ?_); (case h0 => first | omega | (simp only [decide_eq_true_eq, beq_iff_eq] at *; omega)); (case hi => first | omega | (simp only [decide_eq_true_eq, beq_iff_eq] at *; omega)); (case hb => omega); intro _ _; (try dsimp only)))
local macro_rules | `(tactic| walk_at "subscriptTail Name Constant str int") => `(tactic| ((with_reducible refine op_itemZ ?h0 ?hi ?hb ?_); (case h0 => first | decide | omega); (case hi => first | omega | (simp only [decide_eq_true_eq, beq_iff_eq] at *; omega)); (case hb => omega); intro _ _; (try dsimp only)))
local macro_rules | `(tactic| walk_at "compareOp In str str") => `(tactic| (with_reducible refine op_in ?_))
local macro_rules | `(tactic| walk_at "compareOp NotIn str str") => `(tactic| (with_reducible refine op_notin ?_))
local macro_rules | `(tactic| walk_at "compareOp Eq str str") => `(tactic| (with_reducible refine op_eq ?_))
local macro_rules | `(tactic| walk_at "call builtin:str.endswith") => `(tactic| ((with_reducible refine SC.endswith ?_); (try rw [endswith_S])))
local macro_rules | `(tactic| walk_at "subscriptTail Name Slice str ref") => `(tactic| ((with_reducible show wpAny _ _ (subscriptTail _ (Expr.Slice none (some _) none _) _ _) _ _ _); (with_reducible rename Fr _ _ _ _ => F'); (with_reducible rename News _ _ _ _ => N'); (refine op_to (s := ⟨_, _, _, _, _⟩) F' N' ?hb ?_); (case hb => omega); intro _ _ _ _ _; (try dsimp only)))
local macro_rules | `(tactic| walk_at "subscriptTail Name Slice str ref") => `(tactic| ((with_reducible show wpAny _ _ (subscriptTail _ (Expr.Slice (some _) none none _) _ _) _ _ _); (with_reducible rename Fr _ _ _ _ => F'); (with_reducible rename News _ _ _ _ => N'); (refine op_from (s := ⟨_, _, _, _, _⟩) F' N' ?hb ?_); (case hb => omega); intro _ _ _ _ _; (try dsimp only)))
local macro_rules | `(tactic| walk_at "subscriptTail Name UnaryOp str int") => `(tactic| ((with_reducible refine op_itemN ?h0 ?hi ?hb ?_); (case h0 => decide); (case hi => first | omega | (simp only [decide_eq_true_eq, beq_iff_eq] at *; omega)); (case hb => omega); intro _ _; (try dsimp only)))
local macro_rules | `(tactic| walk_at "binaryOp Add str str") => `(tactic| ((with_reducible refine op_add ?hb ?hy ?_); (case hb => omega); (case hy => first | decide | (rw [S_cps]; omega)); intro _ _; (try simp only [S_cps]); (try dsimp only)))
local macro_rules | `(tactic| walk_at "inplaceOp Add str str") => `(tactic| ((with_reducible refine op_iadd ?hb ?hy ?_); (case hb => omega); (case hy => first | decide | (rw [S_cps]; omega)); intro _ _; (try simp only [S_cps]); (try dsimp only)))
local macro_rules | `(tactic| walk_at "compareOp NotEq str str") => `(tactic| (with_reducible refine op_ne ?_))
local macro_rules | `(tactic| walk_at "subscriptTail Name UnaryOp str int") => `(tactic| ((with_reducible refine op_itemN ?h0 ?hi ?hb ?_); (case h0 => decide); (case hi => exact pos_of_ne (by assumption)); (case hb => omega); intro _ _; (try dsimp only)))
local macro_rules | `(tactic| walk_at "subscriptTail Name Name str int") => `(tactic| ((with_reducible refine op_itemZ ?h0 ?hi ?hb ?_); (case h0 => omega); (case hi => omega); (case hb => omega); intro _ _; (try dsimp only)))
local macro_rules | `(tactic| walk_at "subscriptTail Name Name str int") => `(tactic| ((with_reducible refine op_item _ ?hi ?hb ?_); (case hi => omega); (case hb => omega); intro _ _; (try dsimp only)))
local macro_rules | `(tactic| walk_at "binaryOp Add str str") => `(tactic| ((with_reducible refine op_add_l ?hb ?hy ?_); (case hb => first | omega | (simp only [cutTo, cutFrom, List.length_take, List.length_drop]; omega)); (case hy => first | decide | (rw [S_cps]; omega)); intro _ _; (try simp only [S_cps]); (try dsimp only)))
local macro_rules | `(tactic| walk_at "binaryOp Add str str") => `(tactic| ((with_reducible refine op_add ?hb ?hy ?_); (case hb => first | omega | (simp only [cutTo, cutFrom, List.length_take, List.length_drop]; omega)); (case hy => first | decide | (rw [S_cps]; first | omega | (simp only [List.length_cons, List.length_nil]; omega))); intro _ _; (try simp only [S_cps]); (try dsimp only)))
local macro_rules | `(tactic| walk_at "exec For Name Name cons nil") => `(tactic| refine Hold.mk ?_)
local macro_rules | `(tactic| walk_at "pyIter str") => `(tactic| refine Hold.mk ?_)
local macro_rules | `(tactic| walk_at "pyIter ref") => `(tactic| refine Hold.mk ?_)
local macro_rules | `(tactic| walk_at "call ref") => `(tactic| ((with_reducible show wpAny _ _ (call (Value.ref 136) _) _ _ _); k_dflt (refine' Ctr.use (ends_ctr _ _) ?k1 ?k2 ?k3 ?k4 ?k5 ?k6 ?k7 ?k8 ?_; (case k1 => k_asm); (case k2 => k_asm); (case k3 => k_asm); (case k4 => k_asm); (case k5 => k_asm); (case k6 => rfl)); (case k7 => first | exact room (by assumption) (by decide) | decide | omega); (case k8 => first | exact roomU (by assumption) (by decide) | decide | omega); (intro v9 nx9 h9 tk9 hP9 hO9 F9 N9); (obtain ⟨vs9, d9, hv9, hn9, hs9⟩ := hP9); (subst hv9); (subst hn9); (try dsimp only); (try simp only [List.nil_append, List.cons_append] at N9)))
local macro_rules | `(tactic| walk_at "call ref") => `(tactic| ((with_reducible show wpAny _ _ (call (Value.ref 212) _) _ _ _); k_dflt (refine' Ctr.use (lawstemmed_ctr _ _ _ _ ?hx) ?k1 ?k2 ?k3 ?k4 ?k5 ?k6 ?k7 ?k8 ?_; (case k1 => k_asm); (case k2 => k_asm); (case k3 => k_asm); (case k4 => k_asm); (case k5 => k_asm); (case k6 => rfl)); (case hx => assumption); (case k7 => first | exact room (by assumption) (by decide) | decide | omega); (case k8 => first | exact roomU (by assumption) (by decide) | decide | omega); (intro v9 nx9 h9 tk9 hP9 hO9 F9 N9); (rcases hP9 with ⟨hl9, hv9, hn9⟩ | ⟨r9, t9, hl9, hv9, hn9⟩ <;> ((subst hv9); (subst hn9))); (try dsimp only); (try simp only [List.nil_append, List.cons_append] at N9)))
local macro_rules | `(tactic| walk_at "call ref") => `(tactic| ((with_reducible show wpAny _ _ (call (Value.ref 129) _) _ _ _); k_dflt (refine' Ctr.use (stem_ctr _ _ _ _ ?hx) ?k1 ?k2 ?k3 ?k4 ?k5 ?k6 ?k7 ?k8 ?_; (case k1 => k_asm); (case k2 => k_asm); (case k3 => k_asm); (case k4 => k_asm); (case k5 => k_asm); (case k6 => rfl)); (case hx => assumption); (case k7 => first | exact room (by assumption) (by decide) | decide | omega); (case k8 => first | exact roomU (by assumption) (by decide) | decide | omega); (intro v9 nx9 h9 tk9 hP9 hO9 F9 N9); (obtain ⟨t9, hv9, hn9⟩ := hP9); (subst hv9); (subst hn9); (try dsimp only); (try simp only [List.nil_append, List.cons_append] at N9)))
local macro_rules | `(tactic| walk_at "exec For Name Subscript cons nil") => `(tactic| refine Hold.mk ?_)
theorem op_itemT {prog : Program} {w : World} {A : Around} {E : Value → Shared → Prop} {s : Shared} {t u : Tok} {Q : Value → Shared → Prop} {value slice : PySem.Expr} {y : Str} {k : Int} (h0 : 0 ≤ k) (hi : k < (y.cps.toList.length : Int)) (hb : y.cps.toList.length ≤ 100000) (h : ∀ t' tk, Q (.str (S [y.cps.toList.getD k.toNat 0]) t') { s with toks := tk })
    (hs : subscripted slice false (.str (S y.cps.toList) t) (.int k u) = operate [.str (S y.cps.toList) t, .int k u] (getItem (.str (S y.cps.toList) t) (.int k u)) := by with_unfolding_all rfl)
    (ht : ∀ r, letTemporaryGo value (.str (S y.cps.toList) t) r = pure () := by intro _; with_unfolding_all rfl) :
    wpAny (model prog w) A (subscriptTail value slice (.str y t) (.int k u)) Q E s := by
  have h := op_itemZ (prog := prog) (w := w) (A := A) (E := E) (s := s) (t := t) (u := u) (Q := Q) (value := value) (slice := slice) h0 hi hb h hs ht
  rwa [← S_of y] at h
theorem ints_at {vs : List Value} {ns : List Int} (h : IntsAre vs ns) : ∀ (i : Nat) (v : Value), vs[i]? = some v → ∃ (n : Int) (t : Tok), v = .int n t := by
  induction h with
  | nil => intro i v h; simp at h
  | cons n t h ih =>
    intro i v e
    cases i with
    | zero => simp only [List.getElem?_cons_zero, Option.some.injEq] at e; exact ⟨n, t, e.symm⟩
    | succ i => simp only [List.getElem?_cons_succ] at e; exact ih i v e
noncomputable def okC (c : Nat) : Bool := decide (97 ≤ c) && (decide (c ≤ 122) && decide (c ≠ 121))
noncomputable def okL (l : List Nat) : Prop := ∀ c ∈ l, okC c = true
theorem okL.append {a b : List Nat} (ha : okL a) (hb : okL b) : okL (a ++ b) := fun c hc => (List.mem_append.mp hc).elim (ha c) (hb c)
theorem okL.take {a : List Nat} (ha : okL a) (n : Nat) : okL (a.take n) := fun c hc => ha c (List.mem_of_mem_take hc)
abbrev letters : Str := Str.ofString "etaoinsrhldcumfpgwbvkxjqz"
theorem letters_ok : ∀ i, i < 25 → okC (letters.cps.toList.getD i 0) = true := by decide
theorem ends_ok : (ends56.all fun y => decide (y.cps.toList.length ≤ 7) && y.cps.toList.all okC) = true := by decide
theorem getD_mem {α : Type} (l : List α) (d : α) {i : Nat} (h : i < l.length) : l.getD i d ∈ l := by
  rw [List.getD_eq_getElem?_getD, List.getElem?_eq_getElem h]
  exact List.getElem_mem h
noncomputable def piece (p : Int) : List Nat := if p < 25 then [letters.cps.toList.getD p.toNat 0] else (ends56.getD (p - 25).toNat PySem.Str.empty).cps.toList
theorem piece_ok {p : Int} (h0 : 0 ≤ p) (h1 : p < 81) : okL (piece p) ∧ (piece p).length ≤ 7 := by
  unfold piece
  split
  · refine ⟨fun c hc => ?_, ?_⟩
    · rw [List.mem_singleton.mp hc]
      exact letters_ok _ (by omega)
    · show 1 ≤ 7; decide
  · have hl : ends56.length = 56 := rfl
    have h := List.all_eq_true.mp ends_ok _ (getD_mem ends56 PySem.Str.empty (i := (p - 25).toNat) (by omega))
    rw [Bool.and_eq_true, decide_eq_true_eq, List.all_eq_true] at h
    exact ⟨h.2, h.1⟩
local macro_rules | `(tactic| walk_at "subscriptTail Name Name str int") => `(tactic| ((with_reducible refine op_itemT ?h0 ?hi ?hb ?_); (case h0 => omega); (case hi => (show _ < ((25 : Nat) : Int)); omega); (case hb => decide); intro _ _; (try dsimp only)))
local macro_rules | `(tactic| walk_at "subscriptTail Call Name nil nil BinOp ref int") => `(tactic| ((refine KTb.item_list (ws := ends56) (News.isList (by assumption) (.head _)) (by assumption) ?h0 ?h1 ?h2 ?_); (case h0 => omega); (case h1 => (show _ < ((56 : Nat) : Int)); omega); (case h2 => omega); intro _ _; (try dsimp only)))
noncomputable def sufs : List Str := [Str.ofString "", Str.ofString "y", Str.ofString "ys", Str.ofString "s"]
theorem getD_le {ys : List Str} {n : Nat} (h : (ys.all fun y => decide (y.cps.toList.length ≤ n)) = true) (k : Nat) : (ys.getD k PySem.Str.empty).cps.toList.length ≤ n := by
  by_cases hk : k < ys.length
  · have h2 := List.all_eq_true.mp h _ (getD_mem ys PySem.Str.empty hk)
    rwa [decide_eq_true_eq] at h2
  · rw [List.getD_eq_getElem?_getD, List.getElem?_eq_none (by omega)]
    exact Nat.zero_le _
theorem ends_le (k : Nat) : (ends56.getD k PySem.Str.empty).cps.toList.length ≤ 7 := getD_le (by decide) k
theorem sufs_le (k : Nat) : (sufs.getD k PySem.Str.empty).cps.toList.length ≤ 2 := getD_le (by decide) k
local macro_rules | `(tactic| walk_at "binaryOp Add str str") => `(tactic| ((with_reducible refine op_add ?hb ?hy ?_); (case hb => first | omega | (rw [List.length_append]; omega)); (case hy => first | (with_reducible exact Nat.le_trans (ends_le _) (Nat.le_of_ble_eq_true rfl)) | (with_reducible exact Nat.le_trans (sufs_le _) (Nat.le_of_ble_eq_true rfl)) | (rw [S_cps]; simp only [List.length_cons, List.length_nil]; omega)); intro _ _; (try simp only [S_cps]); (try dsimp only)))
local macro_rules | `(tactic| walk_at "subscriptTail List cons BinOp ref int") => `(tactic| ((refine KTb.item_list (ws := sufs) (News.isList (by assumption) (.head _)) (.cons _ _ (.cons _ _ (.cons _ _ (.cons _ _ .nil)))) ?h0 ?h1 ?h2 ?_); (case h0 => assumption); (case h1 => assumption); (case h2 => omega); intro _ _; (try dsimp only)))
noncomputable def preW (f : Int) : List Nat := if f.fmod 2 = 1 then (Str.ofString "y").cps.toList else (Str.ofString "").cps.toList
noncomputable def sufW (f : Int) : List Nat := (sufs.getD ((f.fdiv 2).fmod 4).toNat PySem.Str.empty).cps.toList
noncomputable def fullW (f : Int) (l : List Nat) : List Nat := preW f ++ cutTo l 18 ++ sufW f
theorem fullW_le (f : Int) (l : List Nat) : (fullW f l).length ≤ 100 := by
  have h1 := sufs_le ((f.fdiv 2).fmod 4).toNat
  have h2 : (preW f).length ≤ 1 := by unfold preW; split <;> decide
  unfold fullW cutTo sufW
  rw [List.length_append, List.length_append, List.length_take, if_neg (by decide)]
  have h3 : (18 : Int).toNat = 18 := rfl
  omega
noncomputable def StF (g : Heap) (L : Addr) (s : Shared) (ns : List Int) (s' : Shared) : Prop := ∃ (ts : Addr) (vs : List Value) (fst : Int) (t : Tok), g.IsList ts vs.toArray ∧ IntsAre vs ns ∧ StP g L [] s [(Str.ofString "first", .int fst t), (Str.ofString "script", .ref ts)] s'
noncomputable def StWd (g : Heap) (L : Addr) (s : Shared) (fst : Int) (t0 : Tok) (s' : Shared) : Prop := ∃ (l : List Nat) (t : Tok), okL l ∧ l.length ≤ 126 ∧ StP g L [] s [(Str.ofString "word", .str (S l) t), (Str.ofString "first", .int fst t0)] s'
theorem rowH (plain : ∀ (f : Int) (l : List Nat), okL l → lawF (fullW f l) = none ∨ lawF (fullW f l) = some (stemF (fullW f l))) : PySem.Challenge.rw_iv0075_01.Holds := hd (by
  w_top off
  have hfill : PySem.Challenge.rw_iv0075_01 = PySem.Challenge.rw_iv0075_01 ∧ frag.heap_1 = frag.heap_1 := by
    k_fill
    exact ⟨rfl, rfl⟩
  clear hfill
  w_strict (
    k_go0
    all_goals (try k_fold)
    rename Fr _ _ _ _ => F
    rename News _ _ _ _ => N
    rename Shared => s1
    rename Heap.IsList _ _ _ => hL
    rename IntsAre _ _ => hI
    rename List Int => ns
    rename ¬ _ < _ => hns
    have hnl : ns.length ≤ 63 := by omega
    refine cut1 (StF s1.heap s1.heap.objs.size s1 ns) ?_ ?_
    · k_steps
      all_goals ((rename Fr _ _ _ _ => F9); (rename News _ _ _ _ => N9))
      all_goals exact ⟨_, _, _, _, hL, hI, StP.mk2 F9 N9 (fun _ h => h) rfl rfl⟩
    clear hL hI
    rintro s2 ⟨ts, vs, fst, t0, hL, hI, h2, tk2, u2, rfl, F2, N2⟩
    dsimp only [kstB] at F2
    clear F N
    have hvl := hI.length
    refine cut2 (StWd s1.heap s1.heap.objs.size s1 fst t0) ?_ ?_
    · k_steps
      unfold Hold
      (rename Fr _ _ _ _ => F8)
      refine For_invVF F8 rfl rfl ?_
      k_steps
      unfold Hold
      (rename Fr _ _ _ _ => F9); (rename News _ _ _ _ => N9); (rename List Value => vs2); (rename IntsAre vs2 _ => hI2)
      have hv2 := hI2.length
      dsimp only at F9 ⊢
      refine loopS (σ := List Nat × Tok) (n := 0) (fun _ => _) (fun c => [(Str.ofString "word", .str (S c.1) c.2)]) [Str.ofString "place"] (fun i c => okL c.1 ∧ c.1.length ≤ 7 * i) ([], _) rfl (fun _ => .inr (.head _)) F9 N9 (by intro z hz; cases hz with | head => rfl | tail _ h => cases h) ⟨fun c hc => (by cases hc), Nat.zero_le _⟩ ?_ ?_
      · rintro i v ⟨l, t⟩ u h tk I oI hv ⟨hok, hlen⟩ hsep F1 N1
        dsimp only at hok hlen
        dsimp only [kstB] at F1
        obtain ⟨num, tn, rfl⟩ := ints_at hI2 i v hv
        have hi : i < 18 := by
          have h9 := (List.getElem?_eq_some_iff.mp hv).1
          rw [hv2, List.length_take] at h9
          omega
        have hlen' : l.length ≤ 126 := by omega
        have hp0 : 0 ≤ num.fmod 81 := by rw [Int.fmod_eq_emod_of_nonneg _ (by decide)]; omega
        have hp1 : num.fmod 81 < 81 := by rw [Int.fmod_eq_emod_of_nonneg _ (by decide)]; omega
        k_steps
        all_goals ((rename Fr _ _ _ _ => F7); (rename News _ _ _ _ => N7))
        · refine TurnPost.next (l ++ [letters.cps.toList.getD (num.fmod 81).toNat 0], _) F7 N7 (.head _) (fun p hp => .tail _ hp) hsep (by intro z hz; cases hz with | head => rfl | tail _ h => cases h) (by
        intro z h1 h2 h4
        have h3 : z ≠ Str.ofString "word" := h2 _ (.head _)
        have h5 : z ≠ Str.ofString "place" := fun e => by rw [e] at h4; exact absurd h4 (by decide)
        simp only [kstB, if_neg h1, if_neg h3, if_neg h5, h4]
        try rfl) ?_
          have h9 := piece_ok hp0 hp1
          unfold piece at h9
          rw [if_pos (by assumption)] at h9
          exact ⟨hok.append h9.1, by rw [List.length_append]; have := h9.2; omega⟩
        · refine TurnPost.next (l ++ (ends56.getD (num.fmod 81 - 25).toNat PySem.Str.empty).cps.toList, _) F7 N7 (.tail _ (.head _)) (fun p hp => .tail _ (.tail _ hp)) hsep (by intro z hz; cases hz with | head => rfl | tail _ h => cases h) (by
        intro z h1 h2 h4
        have h3 : z ≠ Str.ofString "word" := h2 _ (.head _)
        have h5 : z ≠ Str.ofString "place" := fun e => by rw [e] at h4; exact absurd h4 (by decide)
        simp only [kstB, if_neg h1, if_neg h3, if_neg h5, h4]
        try rfl) ?_
          have h9 := piece_ok hp0 hp1
          unfold piece at h9
          rw [if_neg (by omega)] at h9
          exact ⟨hok.append h9.1, by rw [List.length_append]; have := h9.2; omega⟩
      · rintro ⟨l, t⟩ u h tk ⟨hok, hlen⟩ F1 N1
        dsimp only at hok hlen
        dsimp only [kstB] at F1
        rw [hv2, List.length_take] at hlen
        exact ⟨l, t, hok, by omega, StP.mk2 F1 N1 (fun _ h => nomatch h) rfl rfl⟩
    rintro s3 ⟨l, t1, hok, hlen, h3, tk3, u3, rfl, F3, N3⟩
    dsimp only [kstB] at F3
    clear F2 N2
    have hf0 : 0 ≤ (fst.fdiv 2).fmod 4 := by rw [Int.fmod_eq_emod_of_nonneg _ (by decide)]; omega
    have hf1 : (fst.fdiv 2).fmod 4 < ((4 : Nat) : Int) := by rw [Int.fmod_eq_emod_of_nonneg _ (by decide)]; omega
    have hY : (Str.ofString "y").cps.toList.length = 1 := rfl
    have hE : (Str.ofString "").cps.toList.length = 0 := rfl
    have hcl : (cutTo l 18).length ≤ 18 := by unfold cutTo; rw [List.length_take, if_neg (by decide)]; exact Nat.min_le_left _ _
    refine cut1 (StL1 s1.heap s1.heap.objs.size [] s1 (fullW fst l)) ?_ ?_
    · k_steps
      all_goals ((rename Fr _ _ _ _ => F7); (rename News _ _ _ _ => N7))
      · have e : fullW fst l = (Str.ofString "y").cps.toList ++ cutTo l 18 ++ (sufs.getD ((fst.fdiv 2).fmod 4).toNat PySem.Str.empty).cps.toList := by
          unfold fullW preW sufW
          rw [if_pos (by assumption)]
        exact StL1.mk F7 N7 (fun _ h => (by cases h)) rfl e
      · have e : fullW fst l = (Str.ofString "").cps.toList ++ cutTo l 18 ++ (sufs.getD ((fst.fdiv 2).fmod 4).toNat PySem.Str.empty).cps.toList := by
          unfold fullW preW sufW
          rw [if_neg (by assumption)]
        exact StL1.mk F7 N7 (fun _ h => (by cases h)) rfl e
    rintro s4 ⟨t2, h4, tk4, u4, rfl, F4, N4⟩
    dsimp only [kstB] at F4
    clear F3 N3
    have hWl := fullW_le fst l
    have hpl := plain fst l hok
    generalize fullW fst l = W at hWl F4 hpl
    k_steps
    all_goals (rename lawF W = some _ => hr9)
    all_goals rw [hr9] at hpl
    all_goals (rcases hpl with hpl | hpl; (exact nomatch hpl))
    all_goals (rw [Option.some.inj hpl, S_cps, beq_self_eq_true])
    all_goals k_steps))
end
section
noncomputable def vo (c : Nat) : Bool := V5.contains c
noncomputable def nv (c : Nat) : Bool := !vo c
noncomputable def uc (c : Nat) : Nat := if c = 89 then 121 else c
noncomputable def ut (x : List Nat) : List Nat := x.map uc
noncomputable def pre (b : Bool) : List Nat := if b then [89] else []
noncomputable def gdb (b : Bool) (x : List Nat) : Prop := ∃ r, okL r ∧ x = pre b ++ r
noncomputable def gd (x : List Nat) : Prop := ∃ b, gdb b x
noncomputable def cl (c : Nat) : Nat := if vo c then 118 else 99
theorem okC_iff {c : Nat} : okC c = true ↔ 97 ≤ c ∧ c ≤ 122 ∧ c ≠ 121 := by
  unfold okC
  rw [Bool.and_eq_true, Bool.and_eq_true, decide_eq_true_eq, decide_eq_true_eq, decide_eq_true_eq]
theorem V5_eq : V5 = [97, 101, 105, 111, 117] := rfl
theorem V6_eq : V6 = [97, 101, 105, 111, 117, 121] := rfl
theorem V6_vo {c : Nat} (h : c ≠ 121) : V6.contains c = vo c := by
  unfold vo
  rw [V6_eq, V5_eq]
  simp [h]
theorem isV_vo {f : List Nat} {c : Nat} (h : c ≠ 121) : isV f c = vo c := by
  have h2 : (c == 121) = false := by rw [beq_eq_false_iff_ne]; exact h
  unfold isV vo
  rw [V5_eq, h2, Bool.false_and, Bool.or_false, Bool.eq_iff_iff]
  simp
theorem ut_append (a b : List Nat) : ut (a ++ b) = ut a ++ ut b := List.map_append
theorem ut_len (a : List Nat) : (ut a).length = a.length := List.length_map _
theorem ut_take (a : List Nat) (n : Nat) : ut (a.take n) = (ut a).take n := List.map_take
theorem ut_id {a : List Nat} (h : ∀ c ∈ a, c ≠ 89) : ut a = a := by
  unfold ut
  have : a.map uc = a.map id := List.map_congr_left fun c hc => if_neg (h c hc)
  rw [this, List.map_id]
theorem ok_ne89 {r : List Nat} (h : okL r) : ∀ c ∈ r, c ≠ 89 := fun c hc e => by
  have := okC_iff.mp (h c hc); omega
theorem ut_ok {r : List Nat} (h : okL r) : ut r = r := ut_id (ok_ne89 h)
theorem gd.ne121 {x : List Nat} (h : gd x) : ∀ c ∈ x, c ≠ 121 := by
  obtain ⟨b, r, hr, rfl⟩ := h
  intro c hc
  rcases List.mem_append.mp hc with h | h
  · cases b
    · cases h
    · rw [List.mem_singleton.mp h]; decide
  · exact (okC_iff.mp (hr c h)).2.2
theorem gd.prefix {x : List Nat} (h : gd x) (n : Nat) : gd (x.take n) := by
  obtain ⟨b, r, hr, rfl⟩ := h
  cases b
  · exact ⟨false, r.take n, hr.take n, by simp [pre]⟩
  · cases n with
    | zero => exact ⟨false, [], (fun _ h => nomatch h), rfl⟩
    | succ n => exact ⟨true, r.take n, hr.take n, by simp [pre]⟩
theorem form_ok : ∀ (r f : List Nat), (∀ c ∈ r, c ≠ 121) → r.foldl formStep f = f ++ r.map cl
  | [], f, _ => by simp
  | c :: r, f, h => by
    rw [List.foldl_cons, form_ok r _ fun d hd => h d (.tail _ hd)]
    unfold formStep cl
    rw [isV_vo (h c (.head _))]
    simp
theorem form_ut {x : List Nat} (h : gd x) : formF (ut x) = x.map cl := by
  obtain ⟨b, r, hr, rfl⟩ := h
  have h2 : ∀ c ∈ r, c ≠ 121 := fun c hc => (okC_iff.mp (hr c hc)).2.2
  rw [ut_append, ut_ok hr]
  unfold formF
  cases b
  · exact form_ok r [] h2
  · rw [List.foldl_append, form_ok r _ h2]; rfl
noncomputable def mz : List Nat → Nat
  | a :: b :: r => (if (vo a && nv b) = true then 1 else 0) + mz (b :: r)
  | _ => 0
theorem measP_cl (a b : Nat) (r : List Nat) : measP ((a :: b :: r).map cl) 0 = (vo a && nv b) := by
  unfold measP
  show ((cl a == 118) && (cl b == 99)) = _
  unfold cl nv
  cases vo a <;> cases vo b <;> rfl
theorem meas_mz : ∀ x : List Nat, ((List.range (x.length - 1)).filter (measP (x.map cl))).length = mz x
  | [] => rfl
  | [a] => rfl
  | a :: b :: r => by
    have ih := meas_mz (b :: r)
    simp only [List.length_cons, Nat.add_sub_cancel] at ih ⊢
    rw [List.range_succ_eq_map, List.filter_cons, List.filter_map, measP_cl]
    have e : (measP ((a :: b :: r).map cl)) ∘ Nat.succ = measP ((b :: r).map cl) := rfl
    rw [e]
    unfold mz
    split
    · rw [List.length_cons, List.length_map, ih]; omega
    · rw [List.length_map, ih]; omega
theorem measure_ut {x : List Nat} (h : gd x) : measureF (ut x) = mz x := by
  unfold measureF
  rw [form_ut h, ut_len]
  exact meas_mz x
theorem twc {p q : Nat → Bool} : ∀ {l : List Nat}, (∀ c ∈ l, p c = q c) → l.takeWhile p = l.takeWhile q
  | [], _ => rfl
  | a :: l, h => by
    rw [List.takeWhile_cons, List.takeWhile_cons, h a (.head _), twc fun c hc => h c (.tail _ hc)]
theorem drop_take {p : Nat → Bool} : ∀ l : List Nat, l.drop (l.takeWhile p).length = l.dropWhile p
  | [] => rfl
  | a :: l => by
    rw [List.takeWhile_cons, List.dropWhile_cons]
    split
    · exact drop_take l
    · rfl
theorem tw_le {p : Nat → Bool} : ∀ l : List Nat, (l.takeWhile p).length ≤ l.length
  | [] => Nat.le_refl _
  | a :: l => by
    rw [List.takeWhile_cons]
    split
    · exact Nat.succ_le_succ (tw_le l)
    · exact Nat.zero_le _
theorem dw_le {p : Nat → Bool} : ∀ l : List Nat, (l.dropWhile p).length ≤ l.length
  | [] => Nat.le_refl _
  | a :: l => by
    rw [List.dropWhile_cons]
    split
    · exact Nat.le_succ_of_le (dw_le l)
    · exact Nat.le_refl _
theorem dw_head {p : Nat → Bool} {a : Nat} {r : List Nat} : ∀ {m : List Nat}, m.dropWhile p = a :: r → p a = false
  | [], h => nomatch h
  | b :: m, h => by
    rw [List.dropWhile_cons] at h
    split at h
    · exact dw_head h
    · rename_i hb
      cases h
      simpa using hb
theorem dw_lt {p q : Nat → Bool} (hpq : ∀ c, p c = !q c) {m : List Nat} (h : m.dropWhile p ≠ []) : ((m.dropWhile p).dropWhile q).length < (m.dropWhile p).length := by
  cases hc : m.dropWhile p with
  | nil => exact absurd hc h
  | cons a r =>
    have h1 := dw_head hc
    have h2 : q a = true := by
      have := hpq a
      rw [h1] at this
      cases hq : q a
      · rw [hq] at this; cases this
      · rfl
    rw [List.dropWhile_cons, if_pos h2]
    exact Nat.lt_succ_of_le (dw_le r)
theorem run_drop {x sg : List Nat} {b : Bool} {q : Nat → Bool} (h : ∀ c ∈ x, (sg.contains c == b) = q c) {p : Nat} (hp : p ≤ x.length) : x.drop (runF x p sg b) = (x.drop p).dropWhile q ∧ runF x p sg b ≤ x.length := by
  have e : runF x p sg b = p + ((x.drop p).takeWhile q).length := by
    unfold runF
    rw [twc fun c hc => h c (List.mem_of_mem_drop hc)]
  have h1 := tw_le (p := q) (x.drop p)
  rw [List.length_drop] at h1
  rw [e]
  refine ⟨?_, by omega⟩
  rw [← List.drop_drop, drop_take]
noncomputable def d1 (x : List Nat) : List Nat := x.dropWhile nv
noncomputable def d2 (x : List Nat) : List Nat := (d1 x).dropWhile vo
noncomputable def d3 (x : List Nat) : List Nat := (d2 x).dropWhile nv
noncomputable def d4 (x : List Nat) : List Nat := (d3 x).dropWhile vo
noncomputable def d5 (x : List Nat) : List Nat := (d4 x).dropWhile nv
theorem dropLen {x d : List Nat} {n : Nat} (h : x.drop n = d) (hn : n ≤ x.length) : n + d.length = x.length := by
  rw [← h, List.length_drop]; omega
theorem runs {x : List Nat} (h : gd x) : rP x + (d1 x).length = x.length ∧ rQ x + (d2 x).length = x.length ∧ rR x + (d3 x).length = x.length ∧ rT x + (d4 x).length = x.length ∧ rU x + (d5 x).length = x.length ∧ x.drop (rP x) = d1 x := by
  have h6 : ∀ c ∈ x, (V6.contains c == false) = nv c := fun c hc => by
    rw [V6_vo (h.ne121 c hc)]; unfold nv; cases vo c <;> rfl
  have h5 : ∀ c ∈ x, (V5.contains c == true) = vo c := fun c hc => by
    show (vo c == true) = vo c
    cases vo c <;> rfl
  have a1 := run_drop h6 (Nat.zero_le _)
  have a2 := run_drop h5 a1.2
  have a3 := run_drop h6 a2.2
  have a4 := run_drop h5 a3.2
  have a5 := run_drop h6 a4.2
  rw [List.drop_zero] at a1
  rw [a1.1] at a2
  rw [a2.1] at a3
  rw [a3.1] at a4
  rw [a4.1] at a5
  exact ⟨dropLen a1.1 a1.2, dropLen a2.1 a2.2, dropLen a3.1 a3.2, dropLen a4.1 a4.2, dropLen a5.1 a5.2, a1.1⟩
theorem dfacts (x : List Nat) : ((d1 x).length = 0 ∨ (d2 x).length < (d1 x).length) ∧ ((d2 x).length = 0 ∨ (d3 x).length < (d2 x).length) ∧ ((d3 x).length = 0 ∨ (d4 x).length < (d3 x).length) ∧ ((d4 x).length = 0 ∨ (d5 x).length < (d4 x).length) ∧
    (d2 x).length ≤ (d1 x).length ∧ (d3 x).length ≤ (d2 x).length ∧ (d4 x).length ≤ (d3 x).length ∧ (d5 x).length ≤ (d4 x).length := by
  have k1 : ∀ c, nv c = !vo c := fun c => rfl
  have k2 : ∀ c, vo c = !nv c := fun c => by unfold nv; cases vo c <;> rfl
  have z : ∀ l : List Nat, l.length = 0 ∨ l ≠ [] := fun l => by cases l <;> simp
  refine ⟨?_, ?_, ?_, ?_, dw_le _, dw_le _, dw_le _, dw_le _⟩
  · exact (z (d1 x)).imp id fun h => dw_lt k1 h
  · exact (z (d2 x)).imp id fun h => dw_lt k2 h
  · exact (z (d3 x)).imp id fun h => dw_lt k1 h
  · exact (z (d4 x)).imp id fun h => dw_lt k2 h
theorem mz_nv {a : Nat} (h : vo a = false) (r : List Nat) : mz (a :: r) = mz r := by
  cases r with
  | nil => rfl
  | cons b r =>
    show (if (vo a && nv b) = true then 1 else 0) + mz (b :: r) = _
    rw [h]; simp
theorem mz_dn : ∀ x : List Nat, mz (x.dropWhile nv) = mz x
  | [] => rfl
  | a :: r => by
    rw [List.dropWhile_cons]
    split
    · rename_i h
      have h2 : vo a = false := by unfold nv at h; simpa using h
      rw [mz_dn r, mz_nv h2]
    · rfl
theorem mz_dv {a : Nat} (h : vo a = true) : ∀ r : List Nat, mz (a :: r) = if r.dropWhile vo = [] then 0 else 1 + mz (r.dropWhile vo) := by
  intro r
  induction r generalizing a with
  | nil => rfl
  | cons b r ih =>
    rw [List.dropWhile_cons]
    show (if (vo a && nv b) = true then 1 else 0) + mz (b :: r) = _
    cases hb : vo b
    · have : nv b = true := by unfold nv; rw [hb]; rfl
      rw [h, this]; simp
    · have : nv b = false := by unfold nv; rw [hb]; rfl
      rw [this, ih hb]; simp
theorem mz_d (x : List Nat) : mz x = if d2 x = [] then 0 else 1 + mz (d2 x) := by
  rw [← mz_dn x]
  unfold d2
  show mz (d1 x) = _
  cases hc : d1 x with
  | nil => rfl
  | cons a r =>
    have h1 : nv a = false := dw_head hc
    have h2 : vo a = true := by unfold nv at h1; simpa using h1
    rw [mz_dv h2, List.dropWhile_cons, if_pos h2]
theorem mz_cases (x : List Nat) : (d2 x = [] ∧ (d2 x).length = 0 ∧ (d4 x).length = 0 ∧ mz x = 0) ∨ (d2 x ≠ [] ∧ (d2 x).length ≠ 0 ∧ (d4 x).length = 0 ∧ mz x = 1) ∨ (d2 x ≠ [] ∧ (d2 x).length ≠ 0 ∧ (d4 x).length ≠ 0 ∧ 2 ≤ mz x) := by
  have h1 := mz_d x
  have h2 := mz_d (d2 x)
  have e : d2 (d2 x) = d4 x := rfl
  rw [e] at h2
  have z : ∀ l : List Nat, l ≠ [] → l.length ≠ 0 := fun l h => by cases l <;> simp_all
  have hd := dfacts x
  by_cases h : d2 x = []
  · rw [if_pos h] at h1
    have h0 : (d2 x).length = 0 := by rw [h]; rfl
    exact .inl ⟨h, h0, by omega, h1⟩
  · rw [if_neg h] at h1
    by_cases h' : d4 x = []
    · rw [if_pos h'] at h2
      exact .inr (.inl ⟨h, z _ h, by rw [h']; rfl, by omega⟩)
    · rw [if_neg h'] at h2
      exact .inr (.inr ⟨h, z _ h, z _ h', by omega⟩)
theorem mgr0_iff {x : List Nat} (h : gd x) : mgr0F x = true ↔ 1 ≤ mz x := by
  have h1 := runs h
  have h2 := dfacts x
  have h3 := mz_cases x
  unfold mgr0F
  rw [Bool.and_eq_true, decide_eq_true_eq, decide_eq_true_eq]
  omega
theorem meq1_iff {x : List Nat} (h : gd x) : meq1F x = true ↔ mz x = 1 := by
  have h1 := runs h
  have h2 := dfacts x
  have h3 := mz_cases x
  unfold meq1F
  rw [Bool.and_eq_true, Bool.and_eq_true, decide_eq_true_eq, decide_eq_true_eq, decide_eq_true_eq]
  omega
theorem mgr1_iff {x : List Nat} (h : gd x) : mgr1F x = true ↔ 2 ≤ mz x := by
  have h1 := runs h
  have h2 := dfacts x
  have h3 := mz_cases x
  unfold mgr1F
  rw [Bool.and_eq_true, Bool.and_eq_true, Bool.and_eq_true, decide_eq_true_eq, decide_eq_true_eq, decide_eq_true_eq, decide_eq_true_eq]
  omega
theorem d1_nil {x : List Nat} : d1 x = [] ↔ ∀ c ∈ x, vo c = false := by
  unfold d1
  induction x with
  | nil => simp
  | cons a r ih =>
    rw [List.dropWhile_cons]
    cases h : vo a
    · rw [if_pos (by unfold nv; rw [h]; rfl), ih]
      constructor
      · intro h2 c hc
        rcases List.mem_cons.mp hc with rfl | hc
        · exact h
        · exact h2 c hc
      · exact fun h2 c hc => h2 c (.tail _ hc)
    · rw [if_neg (by unfold nv; rw [h]; decide)]
      constructor
      · exact fun h => nomatch h
      · intro h2
        have := h2 a (.head _)
        rw [h] at this; cases this
theorem sv_ut {x : List Nat} (h : gd x) : voicedF (ut x) = svF x := by
  have h1 := (runs h).1
  unfold voicedF svF
  rw [form_ut h, Bool.eq_iff_iff, decide_eq_true_eq, List.contains_iff_mem, List.mem_map]
  constructor
  · rintro ⟨c, hc, hcl⟩
    have hv : vo c = true := by
      unfold cl at hcl
      cases hv : vo c
      · rw [hv] at hcl; exact absurd hcl (by decide)
      · rfl
    have hne : d1 x ≠ [] := fun e => by
      have := d1_nil.mp e c hc
      rw [hv] at this; cases this
    have : (d1 x).length ≠ 0 := by
      cases hd : d1 x
      · exact absurd hd hne
      · simp
    omega
  · intro hlt
    apply Classical.byContradiction
    intro hno
    have : d1 x = [] := d1_nil.mpr fun c hc => by
      cases hv : vo c
      · rfl
      · exact absurd ⟨c, hc, by unfold cl; rw [hv]; rfl⟩ hno
    rw [this] at h1
    simp only [List.length_nil] at h1
    omega
end
section
theorem V9_eq : V9 = [97, 101, 105, 111, 117, 119, 120, 121] := rfl
theorem tw_all {p : Nat → Bool} : ∀ {l : List Nat} {c : Nat}, c ∈ l.takeWhile p → p c = true
  | a :: l, c, h => by
    rw [List.takeWhile_cons] at h
    split at h
    · rename_i ha
      rcases List.mem_cons.mp h with rfl | h
      · exact ha
      · exact tw_all h
    · cases h
theorem dw_app {p : Nat → Bool} : ∀ {l r : List Nat}, (∀ c ∈ l, p c = true) → (l ++ r).dropWhile p = r.dropWhile p
  | [], _, _ => rfl
  | a :: l, r, h => by
    rw [List.cons_append, List.dropWhile_cons, if_pos (h a (.head _))]
    exact dw_app fun c hc => h c (.tail _ hc)
theorem mz_app {p a b : Nat} (hp : vo p = false) (ha : vo a = true) (hb : vo b = false) : ∀ T : List Nat, mz (T ++ [p, a, b]) = mz (T ++ [p]) + 1
  | [] => by
    show mz (p :: a :: b :: []) = mz [p] + 1
    rw [mz_nv hp]
    show (if (vo a && nv b) = true then 1 else 0) + mz [b] = _
    unfold nv
    rw [ha, hb]; rfl
  | [c] => by
    have h := mz_app hp ha hb []
    show (if (vo c && nv p) = true then 1 else 0) + mz ([] ++ [p, a, b]) = (if (vo c && nv p) = true then 1 else 0) + mz ([] ++ [p]) + 1
    omega
  | c :: d :: T => by
    have h := mz_app hp ha hb (d :: T)
    show (if (vo c && nv d) = true then 1 else 0) + mz ((d :: T) ++ [p, a, b]) = (if (vo c && nv d) = true then 1 else 0) + mz ((d :: T) ++ [p]) + 1
    omega
theorem mz0 {p : Nat} (hp : vo p = false) : ∀ T : List Nat, mz (T ++ [p]) = 0 → ∀ c ∈ T, vo c = false
  | [], _, _, h => nomatch h
  | [d], h, c, hc => by
    rw [List.mem_singleton.mp hc]
    cases hd : vo d
    · rfl
    · have h2 : (if (vo d && nv p) = true then 1 else 0) + mz [p] = 0 := h
      unfold nv at h2
      rw [hd, hp] at h2
      exact absurd h2 (by simp)
  | d :: e :: T, h, c, hc => by
    have h2 : (if (vo d && nv e) = true then 1 else 0) + mz ((e :: T) ++ [p]) = 0 := h
    have h3 := mz0 hp (e :: T) (by omega)
    rcases List.mem_cons.mp hc with rfl | hc
    · cases hd : vo c
      · rfl
      · unfold nv at h2
        rw [hd, h3 e (.head _)] at h2
        exact absurd h2 (by simp)
    · exact h3 c hc
theorem gd.tail89 {x : List Nat} (h : gd x) : ∀ c ∈ x.drop 1, c ≠ 89 := by
  obtain ⟨b, r, hr, rfl⟩ := h
  cases b
  · exact fun c hc => ok_ne89 hr c (List.mem_of_mem_drop hc)
  · exact fun c hc => ok_ne89 hr c hc
theorem cl_v {c : Nat} : cl c = 118 ↔ vo c = true := by unfold cl; cases vo c <;> decide
theorem cl_c {c : Nat} : cl c = 99 ↔ vo c = false := by unfold cl; cases vo c <;> decide
theorem cut3 (f : List Nat) : cutFrom f (-3) = f.drop (f.length - 3) := by
  unfold cutFrom
  rw [if_pos (by decide)]
  congr 1
  omega
theorem wxy (c : Nat) : (!([Str.ofString "w", Str.ofString "x", Str.ofString "y"].any fun x => x == S [c])) = true ↔ c ≠ 119 ∧ c ≠ 120 ∧ c ≠ 121 := by
  rw [show Str.ofString "w" = S [119] from rfl, show Str.ofString "x" = S [120] from rfl, show Str.ofString "y" = S [121] from rfl]
  simp only [List.any_cons, List.any_nil, one_beq, Bool.or_false]
  simp
theorem lastD (T : List Nat) (a b c : Nat) : (T ++ [a, b, c]).getD ((T ++ [a, b, c]).length - 1) 0 = c := by
  rw [List.getD_eq_getElem?_getD, List.length_append]
  show ((T ++ [a, b, c])[T.length + 3 - 1]?).getD 0 = c
  rw [show T.length + 3 - 1 = T.length + 2 by omega, List.getElem?_append_right (by omega)]
  rw [show T.length + 2 - T.length = 2 by omega]; rfl
theorem short_iff {x : List Nat} (h : gd x) : shortF (ut x) = true ↔ ∃ T p a b, x = T ++ [p, a, b] ∧ vo p = false ∧ vo a = true ∧ vo b = false ∧ uc b ≠ 119 ∧ uc b ≠ 120 ∧ uc b ≠ 121 := by
  unfold shortF
  rw [form_ut h, cut3, Bool.and_eq_true, beq_iff_eq, wxy, List.length_map, show (Str.ofString "cvc").cps.toList = [99, 118, 99] from rfl, ← List.map_drop]
  constructor
  · rintro ⟨h1, h2⟩
    have hx : x = x.take (x.length - 3) ++ x.drop (x.length - 3) := (List.take_append_drop _ _).symm
    generalize x.take (x.length - 3) = T at hx
    generalize x.drop (x.length - 3) = D at h1 hx
    have hDl : D.length = 3 := by
      have h9 := congrArg List.length h1
      rw [List.length_map] at h9
      exact h9
    match D, hDl, h1 with
    | [p, a, b], _, h1 =>
      simp only [List.map_cons, List.map_nil, List.cons.injEq, and_true] at h1
      subst hx
      refine ⟨T, p, a, b, rfl, cl_c.mp h1.1, cl_v.mp h1.2.1, cl_c.mp h1.2.2, ?_⟩
      rw [ut_append, show ut [p, a, b] = [uc p, uc a, uc b] from rfl, lastD] at h2
      exact h2
  · rintro ⟨T, p, a, b, rfl, hp, ha, hb, h2⟩
    constructor
    · rw [List.length_append, show [p, a, b].length = 3 from rfl, Nat.add_sub_cancel, List.drop_left]
      simp only [List.map_cons, List.map_nil]
      rw [cl_c.mpr hp, cl_v.mpr ha, cl_c.mpr hb]
    · rw [ut_append, show ut [p, a, b] = [uc p, uc a, uc b] from rfl, lastD]
      exact h2
theorem V9_iff {b : Nat} : (!V9.contains b) = true ↔ vo b = false ∧ b ≠ 119 ∧ b ≠ 120 ∧ b ≠ 121 := by
  unfold vo
  rw [V9_eq, V5_eq, show ([97, 101, 105, 111, 117, 119, 120, 121] : List Nat) = [97, 101, 105, 111, 117] ++ [119, 120, 121] from rfl, List.contains_append, Bool.not_or, Bool.and_eq_true, Bool.not_eq_true', Bool.not_eq_true']
  refine and_congr_right fun _ => ?_
  rw [List.contains_cons, List.contains_cons, List.contains_cons, List.contains_nil, Bool.or_false, Bool.or_eq_false_iff, Bool.or_eq_false_iff, beq_eq_false_iff_ne, beq_eq_false_iff_ne, beq_eq_false_iff_ne]
theorem cv_iff {x : List Nat} (h : gd x) : cvF x = true ↔ mz x = 1 ∧ shortF (ut x) = true := by
  have hr := runs h
  have hrd := hr.2.2.2.2.2
  rw [short_iff h]
  unfold cvF
  rw [Bool.and_eq_true, Bool.and_eq_true, decide_eq_true_eq, decide_eq_true_eq, V9_iff]
  constructor
  · rintro ⟨h1, h2, h3⟩
    have hd2 : (d1 x).length = 2 := by omega
    match hD : d1 x, hd2 with
    | [a, b], _ =>
      have ha : vo a = true := by
        have h9 : nv a = false := dw_head hD
        unfold nv at h9; simpa using h9
      have hb : x.getD (rP x + 1) 0 = b := by
        rw [List.getD_eq_getElem?_getD, ← List.getElem?_drop, hrd, hD]; rfl
      rw [hb] at h3
      have hx : x = x.takeWhile nv ++ d1 x := List.takeWhile_append_dropWhile.symm
      rw [hD] at hx
      have hTl : (x.takeWhile nv).length = rP x := by
        have := congrArg List.length hx
        rw [List.length_append] at this
        simp only [List.length_cons, List.length_nil] at this
        omega
      rcases List.eq_nil_or_concat (x.takeWhile nv) with hT | ⟨T, p, hT⟩
      · rw [hT] at hTl; simp only [List.length_nil] at hTl; omega
      · have hp : nv p = true := tw_all (l := x) (by rw [hT]; simp)
        have hp' : vo p = false := by unfold nv at hp; simpa using hp
        rw [hT] at hx
        have hx' : x = T ++ [p, a, b] := by rw [hx]; simp
        have hb89 : b ≠ 89 := h.tail89 b (by
          rw [hx']
          cases T with
          | nil => exact .tail _ (.head _)
          | cons t T => simp)
        have hub : uc b = b := if_neg hb89
        refine ⟨?_, T, p, a, b, hx', hp', ha, h3.1, by rw [hub]; exact h3.2⟩
        rw [← mz_dn x]
        show mz (d1 x) = 1
        rw [hD]
        show (if (vo a && nv b) = true then 1 else 0) + mz [b] = 1
        unfold nv
        rw [ha, h3.1]; rfl
  · rintro ⟨hm, T, p, a, b, hx, hp, ha, hb, hu⟩
    rw [hx, mz_app hp ha hb] at hm
    have hT := mz0 hp T (by omega)
    have hd : d1 x = [a, b] := by
      unfold d1
      rw [hx, show T ++ [p, a, b] = (T ++ [p]) ++ [a, b] by simp, dw_app, List.dropWhile_cons, if_neg (by unfold nv; rw [ha]; decide)]
      intro c hc
      unfold nv
      rcases List.mem_append.mp hc with hc | hc
      · rw [hT c hc]; rfl
      · rw [List.mem_singleton.mp hc, hp]; rfl
    have hl : x.length = T.length + 3 := by rw [hx, List.length_append]; rfl
    have hr1 := hr.1
    rw [hd] at hr1 hrd
    simp only [List.length_cons, List.length_nil] at hr1
    have hbg : x.getD (rP x + 1) 0 = b := by
      rw [List.getD_eq_getElem?_getD, ← List.getElem?_drop, hrd]; rfl
    rw [hbg]
    have hb121 : b ≠ 121 := h.ne121 b (by rw [hx]; simp)
    have hu2 : b ≠ 119 ∧ b ≠ 120 := by
      unfold uc at hu
      constructor
      · rintro rfl; exact hu.1 rfl
      · rintro rfl; exact hu.2.1 rfl
    exact ⟨by omega, by omega, hb, hu2.1, hu2.2, hb121⟩

noncomputable def okE (y : Str) : Bool := !y.cps.toList.isEmpty && y.cps.toList.all fun c => c != 89 && c != 121
theorem okE_ne {y : Str} (h : okE y = true) : y.cps.toList ≠ [] ∧ ∀ c ∈ y.cps.toList, c ≠ 89 ∧ c ≠ 121 := by
  unfold okE at h
  rw [Bool.and_eq_true, List.all_eq_true] at h
  refine ⟨fun e => ?_, fun c hc => by simpa using h.2 c hc⟩
  rw [e] at h
  exact absurd h.1 (by decide)
theorem sfx_ut {e x : List Nat} (he : ∀ c ∈ e, c ≠ 89 ∧ c ≠ 121) : e.isSuffixOf (ut x) = e.isSuffixOf x := by
  rw [Bool.eq_iff_iff, List.isSuffixOf_iff_suffix, List.isSuffixOf_iff_suffix]
  constructor
  · rintro ⟨p, hp⟩
    obtain ⟨a, b, rfl, h1, h2⟩ := List.map_eq_append_iff.mp hp.symm
    have hb : ∀ c ∈ b, c ≠ 89 := fun c hc e => by
      have : uc c ∈ b.map uc := List.mem_map_of_mem hc
      rw [h2] at this
      exact (he _ this).2 (by rw [e]; rfl)
    have h3 : ut b = b := ut_id hb
    rw [← h2]
    refine ⟨a, ?_⟩
    show a ++ ut b = _
    rw [h3]
  · rintro ⟨p, rfl⟩
    exact ⟨ut p, by rw [ut_append, ut_id fun c hc => (he c hc).1]⟩
theorem sfx_y {a e : List Nat} (hne : e ≠ []) (he : ∀ c ∈ e, c ≠ 121) : e.isSuffixOf (a ++ [121]) = false := by
  rw [Bool.eq_false_iff]
  intro h
  rw [List.isSuffixOf_iff_suffix] at h
  obtain ⟨p, hp⟩ := h
  rcases List.eq_nil_or_concat e with h | ⟨e', z, h⟩
  · exact hne h
  · subst h
    rw [List.concat_eq_append, ← List.append_assoc] at hp
    have := List.append_inj_right' hp rfl
    simp only [List.cons.injEq, and_true] at this
    exact he z (by simp) this
theorem longG_none {l : List Nat} : ∀ (ys : List Str) (f : List Nat), (∀ y ∈ ys, y.cps.toList.isSuffixOf l = false) → ys.foldl (stepG l) f = f
  | [], _, _ => rfl
  | y :: ys, f, h => by
    rw [List.foldl_cons]
    have : stepG l f y = f := by
      unfold stepG
      rw [if_neg (by rw [h y (.head _)]; simp)]
    rw [this]
    exact longG_none ys f fun z hz => h z (.tail _ hz)
noncomputable def relG (x : List Nat) (r : Option (List Nat × Str)) (f : List Nat) : Prop := r = if f = [] then none else some (cutTo x ((x.length : Int) - (f.length : Int)), S f)
theorem relG_step {x f : List Nat} {r : Option (List Nat × Str)} {y : Str} (hr : relG x r f) (hy : okE y = true) (hp : y.cps.toList.isSuffixOf x = true → y.cps.toList.length < x.length) : relG x (stepL x r y) (stepG (ut x) f y) := by
  have hk := okE_ne hy
  have hs := sfx_ut (x := x) hk.2
  have hlen : 0 < y.cps.toList.length := List.length_pos_iff.mpr hk.1
  have hq : (∀ q, r = some q → q.2.cps.toList.length < y.cps.toList.length) ↔ f.length < y.cps.toList.length := by
    unfold relG at hr
    by_cases hf : f = []
    · rw [if_pos hf] at hr
      subst hr
      rw [hf]
      exact ⟨fun _ => hlen, fun _ q hq => nomatch hq⟩
    · rw [if_neg hf] at hr
      subst hr
      constructor
      · intro h
        have := h _ rfl
        rwa [S_cps] at this
      · intro h q hq
        cases hq
        rwa [S_cps]
  unfold stepL stepG
  rw [hs]
  by_cases hc : y.cps.toList.isSuffixOf x = true ∧ f.length < y.cps.toList.length
  · rw [if_pos hc, if_pos ⟨hp hc.1, hc.1, hq.mpr hc.2⟩]
    unfold relG
    rw [if_neg hk.1, ← S_of y]
  · rw [if_neg hc, if_neg fun h => hc ⟨h.2.1, hq.mp h.2.2⟩]
    exact hr
theorem relG_fold {x : List Nat} : ∀ (ys : List Str) (r : Option (List Nat × Str)) (f : List Nat), relG x r f → (∀ y ∈ ys, okE y = true) → (∀ y ∈ ys, y.cps.toList.isSuffixOf x = true → y.cps.toList.length < x.length) → relG x (ys.foldl (stepL x) r) (ys.foldl (stepG (ut x)) f)
  | [], _, _, h, _, _ => h
  | y :: ys, r, f, h, h1, h2 => by
    rw [List.foldl_cons, List.foldl_cons]
    exact relG_fold ys _ _ (relG_step h (h1 y (.head _)) (h2 y (.head _))) (fun z hz => h1 z (.tail _ hz)) fun z hz => h2 z (.tail _ hz)
theorem long_eq {x : List Nat} {ys : List Str} (h1 : ys.all okE = true) (h2 : ∀ y ∈ ys, x ≠ y.cps.toList) :
    longF x ys = if longG (ut x) ys = [] then none else some (cutTo x ((x.length : Int) - ((longG (ut x) ys).length : Int)), S (longG (ut x) ys)) := by
  refine relG_fold ys none [] rfl (List.all_eq_true.mp h1) fun y hy hs => ?_
  rw [List.isSuffixOf_iff_suffix] at hs
  obtain ⟨p, hp⟩ := hs
  cases p with
  | nil => exact absurd hp.symm (h2 y hy)
  | cons c p => rw [← hp, List.length_append, List.length_cons]; omega
theorem cutTo_nat (x : List Nat) (n : Nat) (h : n ≤ x.length) : cutTo x ((x.length : Int) - (n : Int)) = x.take (x.length - n) := by
  unfold cutTo
  rw [if_neg (by omega)]
  congr 1
  omega
theorem cutTo_neg (x : List Nat) (n : Nat) (h : 0 < n) : cutTo x (-(n : Int)) = x.take (x.length - n) := by
  unfold cutTo
  rw [if_pos (by omega)]
  congr 1
  omega
end
section
theorem gdb.gd {b : Bool} {x : List Nat} (h : gdb b x) : gd x := ⟨b, h⟩
theorem gdb.take {b : Bool} {x : List Nat} {n : Nat} (h : gdb b x) (hne : x.take n ≠ []) : gdb b (x.take n) := by
  obtain ⟨r, hr, rfl⟩ := h
  cases b
  · exact ⟨r.take n, hr.take n, by simp [pre]⟩
  · cases n with
    | zero => exact absurd rfl hne
    | succ n => exact ⟨r.take n, hr.take n, by simp [pre]⟩
theorem gdb.app {b : Bool} {a t : List Nat} (h : gdb b a) (ht : okL t) : gdb b (a ++ t) := by
  obtain ⟨r, hr, rfl⟩ := h
  exact ⟨r ++ t, hr.append ht, by rw [List.append_assoc]⟩
theorem ne_nil {α : Type} {l : List α} (h : 0 < l.length) : l ≠ [] := by
  rintro rfl; exact absurd h (by simp)
theorem gdb.left {b : Bool} {a t : List Nat} (h : gdb b (a ++ t)) (hne : a ≠ []) : gdb b a := by
  have h2 : (a ++ t).take a.length = a := List.take_left
  have h3 := h.take (n := a.length) (by rw [h2]; exact hne)
  rwa [h2] at h3
theorem gd.left {a t : List Nat} (h : Mine.gd (a ++ t)) : Mine.gd a := by
  have h3 := h.prefix a.length
  rwa [List.take_left] at h3
theorem ut_cut (x : List Nat) (k : Int) : cutTo (ut x) k = ut (cutTo x k) := by
  unfold cutTo
  rw [ut_len, ut_take]
theorem mgr0_ne {a : List Nat} (h : mgr0F a = true) : a ≠ [] := by
  rintro rfl; exact absurd h (by decide)
theorem mgr1_ne {a : List Nat} (h : mgr1F a = true) : a ≠ [] := by
  rintro rfl; exact absurd h (by decide)
theorem sv_ne {a : List Nat} (h : svF a = true) : a ≠ [] := by
  rintro rfl; exact absurd h (by decide)
theorem tab_ok {prs : List (Str × Str)} (ht : (prs.all fun p => p.2.cps.toList.all okC) = true) (y : Str) : okL (tabOf prs y) := by
  unfold tabOf
  cases hc : pickF prs y.cps.toList with
  | nil => exact fun c h => nomatch h
  | cons q r =>
    have hq : q ∈ pickF prs y.cps.toList := by rw [hc]; exact List.mem_cons_self
    have h2 := List.all_eq_true.mp ht q (List.mem_filter.mp hq).1
    exact List.all_eq_true.mp h2
theorem step_eq {b : Bool} {x : List Nat} {ends : List Str} {prs : List (Str × Str)} (he : prs.map Prod.fst = ends) (hE : ends.all okE = true) (ht : (prs.all fun p => p.2.cps.toList.all okC) = true) (hx : gdb b x) (hns : ∀ y ∈ ends, x ≠ y.cps.toList) :
    lawStepF (ut x) prs = ut (stP ends prs x) ∧ gdb b (stP ends prs x) := by
  unfold lawStepF stP
  rw [he, long_eq hE hns]
  dsimp only
  generalize longG (ut x) ends = e
  by_cases h : e = []
  · rw [if_pos (.inl h), if_pos h]
    exact ⟨rfl, hx⟩
  · rw [if_neg h, ut_len, ut_cut]
    dsimp only
    have hp : ∃ n, cutTo x ((x.length : Int) - (e.length : Int)) = x.take n := ⟨_, rfl⟩
    generalize cutTo x ((x.length : Int) - (e.length : Int)) = a at hp
    obtain ⟨n, rfl⟩ := hp
    have hg := hx.gd.prefix n
    have hiff := mgr0_iff hg
    rw [measure_ut hg]
    cases hm : mgr0F (x.take n)
    · have h0 : ¬ 1 ≤ mz (x.take n) := fun c => by rw [hiff.mpr c] at hm; cases hm
      rw [if_pos (.inr (by omega)), if_neg (by decide)]
      exact ⟨rfl, hx⟩
    · have h0 := hiff.mp hm
      have hok := tab_ok ht (S e)
      rw [if_neg (fun c => c.elim h (by omega)), if_pos rfl]
      refine ⟨?_, (hx.take (mgr0_ne hm)).app hok⟩
      rw [ut_append, ut_ok hok]
      unfold tabOf
      rw [S_cps]
theorem full2 : (ends2.all fun y => (y.cps.toList == (Str.ofString "ization").cps.toList) || (lawStepF y.cps.toList second == y.cps.toList && stP ends2 second y.cps.toList == y.cps.toList)) = true := by decide +kernel
theorem full3 : (ends3.all fun y => (lawStepF y.cps.toList third == y.cps.toList && stP ends3 third y.cps.toList == y.cps.toList)) = true := by decide +kernel
theorem full4 : (endsD.all fun y => (law7 y.cps.toList == y.cps.toList && st10 y.cps.toList == y.cps.toList)) = true := by decide +kernel
theorem okE2 : ends2.all okE = true := by decide +kernel
theorem okE3 : ends3.all okE = true := by decide +kernel
theorem okE4 : ends4.all okE = true := by decide +kernel
theorem okED : endsD.all okE = true := by decide +kernel
theorem ut_end {ys : List Str} (h : ys.all okE = true) {y : Str} (hy : y ∈ ys) : ut y.cps.toList = y.cps.toList :=
  ut_id fun c hc => ((okE_ne (List.all_eq_true.mp h y hy)).2 c hc).1
theorem second_eq {b : Bool} {x : List Nat} (hx : gdb b x) (hz : x ≠ (Str.ofString "ization").cps.toList) : lawStepF (ut x) second = ut (stP ends2 second x) ∧ gdb b (stP ends2 second x) := by
  by_cases hm : ∃ y ∈ ends2, x = y.cps.toList
  · obtain ⟨y, hy, rfl⟩ := hm
    have h := List.all_eq_true.mp full2 y hy
    rw [Bool.or_eq_true, Bool.and_eq_true, beq_iff_eq, beq_iff_eq, beq_iff_eq] at h
    rcases h with h | h
    · exact absurd h hz
    · rw [ut_end okE2 hy, h.1, h.2, ut_end okE2 hy]
      exact ⟨rfl, hx⟩
  · exact step_eq rfl okE2 (by decide +kernel) hx fun y hy e => hm ⟨y, hy, e⟩
theorem third_eq {b : Bool} {x : List Nat} (hx : gdb b x) : lawStepF (ut x) third = ut (stP ends3 third x) ∧ gdb b (stP ends3 third x) := by
  by_cases hm : ∃ y ∈ ends3, x = y.cps.toList
  · obtain ⟨y, hy, rfl⟩ := hm
    have h := List.all_eq_true.mp full3 y hy
    rw [Bool.and_eq_true, beq_iff_eq, beq_iff_eq] at h
    rw [ut_end okE3 hy, h.1, h.2, ut_end okE3 hy]
    exact ⟨rfl, hx⟩
  · exact step_eq rfl okE3 (by decide +kernel) hx fun y hy e => hm ⟨y, hy, e⟩
/-! the fourth step -/
theorem t_ion : (Str.ofString "ion").cps.toList = [105, 111, 110] := rfl
theorem t_nil : (Str.ofString "").cps.toList = [] := rfl
theorem t_sion : (Str.ofString "sion").cps.toList = [115, 105, 111, 110] := rfl
theorem t_tion : (Str.ofString "tion").cps.toList = [116, 105, 111, 110] := rfl
noncomputable def eA : List Str := [Str.ofString "al", Str.ofString "ance", Str.ofString "ence", Str.ofString "er", Str.ofString "ic", Str.ofString "able", Str.ofString "ible", Str.ofString "ant", Str.ofString "ement", Str.ofString "ment", Str.ofString "ent"]
noncomputable def eB : List Str := [Str.ofString "ou", Str.ofString "ism", Str.ofString "ate", Str.ofString "iti", Str.ofString "ous", Str.ofString "ive", Str.ofString "ize"]
theorem endsD_eq : endsD = eA ++ Str.ofString "ion" :: eB := rfl
theorem ends4_eq : ends4 = eA ++ eB := rfl
theorem apart : (ends4.all fun y => !(y.cps.toList.isSuffixOf [105, 111, 110]) && !(([105, 111, 110] : List Nat).isSuffixOf y.cps.toList)) = true := by decide +kernel
theorem no_ion4 : (ends4.all fun y => !(y.cps.toList == [105, 111, 110])) = true := by decide +kernel
theorem no4 {l : List Nat} (h : ([105, 111, 110] : List Nat).isSuffixOf l = true) : ∀ y ∈ ends4, y.cps.toList.isSuffixOf l = false := by
  intro y hy
  rw [Bool.eq_false_iff]
  intro h2
  rw [List.isSuffixOf_iff_suffix] at h h2
  have ha := List.all_eq_true.mp apart y hy
  rw [Bool.and_eq_true, Bool.not_eq_true', Bool.not_eq_true', Bool.eq_false_iff, Bool.eq_false_iff, Ne, Ne, List.isSuffixOf_iff_suffix, List.isSuffixOf_iff_suffix] at ha
  rcases List.suffix_or_suffix_of_suffix h h2 with h3 | h3
  · exact ha.2 h3
  · exact ha.1 h3
theorem longD_ion {l : List Nat} (h : ([105, 111, 110] : List Nat).isSuffixOf l = true) : longG l endsD = [105, 111, 110] := by
  have hn := no4 h
  rw [ends4_eq] at hn
  unfold longG
  rw [endsD_eq, List.foldl_append, longG_none eA [] fun y hy => hn y (List.mem_append.mpr (.inl hy)), List.foldl_cons]
  have e : stepG l [] (Str.ofString "ion") = [105, 111, 110] := by
    unfold stepG
    rw [t_ion, if_pos ⟨h, by decide⟩]
  rw [e]
  exact longG_none eB _ fun y hy => hn y (List.mem_append.mpr (.inr hy))
theorem longD_no {l : List Nat} (h : ([105, 111, 110] : List Nat).isSuffixOf l = false) : longG l endsD = longG l ends4 := by
  unfold longG
  rw [endsD_eq, ends4_eq, List.foldl_append, List.foldl_append, List.foldl_cons]
  have e : ∀ f, stepG l f (Str.ofString "ion") = f := fun f => by
    unfold stepG
    rw [t_ion, if_neg (by rw [h]; simp)]
  rw [e]
theorem mz_le {x : List Nat} (h : gd x) : mz x ≤ x.length - 1 := by
  have := measureF_le (ut x)
  rwa [measure_ut h, ut_len] at this
theorem suffix_one {T : List Nat} {c d : Nat} : ((d :: [105, 111, 110]).isSuffixOf (T ++ c :: [105, 111, 110])) = (c == d) := by
  rw [Bool.eq_iff_iff, List.isSuffixOf_iff_suffix, beq_iff_eq]
  constructor
  · rintro ⟨p, hp⟩
    have := List.append_inj_right' hp rfl
    simp only [List.cons.injEq, and_true] at this
    exact this.symm
  · rintro rfl
    exact ⟨T, rfl⟩
theorem ionLast (T : List Nat) (c : Nat) : (T ++ [c]).getD ((T ++ [c]).length - 1) 0 = c := by
  rw [List.getD_eq_getElem?_getD, List.length_append, List.length_singleton, Nat.add_sub_cancel, List.getElem?_append_right (Nat.le_refl _), Nat.sub_self]; rfl
theorem st_any (c : Nat) : ([Str.ofString "s", Str.ofString "t"].any fun x => x == S [uc c]) = (c == 115 || c == 116) := by
  rw [show Str.ofString "s" = S [115] from rfl, show Str.ofString "t" = S [116] from rfl]
  simp only [List.any_cons, List.any_nil, one_beq, Bool.or_false]
  unfold uc
  split
  · rename_i h; rw [h]; rfl
  · rfl
theorem st10_eq {b : Bool} {x : List Nat} (hx : gdb b x) : law7 (ut x) = ut (st10 x) ∧ gdb b (st10 x) := by
  by_cases hm : ∃ y ∈ endsD, x = y.cps.toList
  · obtain ⟨y, hy, rfl⟩ := hm
    have h := List.all_eq_true.mp full4 y hy
    rw [Bool.and_eq_true, beq_iff_eq, beq_iff_eq] at h
    rw [ut_end okED hy, h.1, h.2, ut_end okED hy]
    exact ⟨rfl, hx⟩
  have hns : ∀ y ∈ ends4, x ≠ y.cps.toList := fun y hy e => hm ⟨y, by
    rw [endsD_eq]
    rw [ends4_eq] at hy
    rcases List.mem_append.mp hy with h | h
    · exact List.mem_append.mpr (.inl h)
    · exact List.mem_append.mpr (.inr (.tail _ h)), e⟩
  have hni : x ≠ [105, 111, 110] := fun e => hm ⟨Str.ofString "ion", by rw [endsD_eq]; exact List.mem_append.mpr (.inr (.head _)), by rw [e]; rfl⟩
  have hsu := sfx_ut (e := [105, 111, 110]) (x := x) (by decide)
  cases hion : ([105, 111, 110] : List Nat).isSuffixOf x
  · rw [hion] at hsu
    have hs42 : s42F x = none := by
      unfold s42F
      rw [if_neg]
      rintro ⟨_, h⟩
      rw [t_sion, t_tion, List.isSuffixOf_iff_suffix, List.isSuffixOf_iff_suffix] at h
      have h3 : [105, 111, 110] <:+ x := by
        rcases h with h | h
        · exact List.IsSuffix.trans (List.suffix_cons _ _) h
        · exact List.IsSuffix.trans (List.suffix_cons _ _) h
      rw [← List.isSuffixOf_iff_suffix, hion] at h3
      cases h3
    have hne : longG (ut x) ends4 = [] ∨ longG (ut x) ends4 ≠ [105, 111, 110] := by
      rcases longG_memA (l := ut x) ends4 [] with h | ⟨y, hy, h⟩
      · exact .inl h
      · refine .inr ?_
        have h9 := List.all_eq_true.mp no_ion4 y hy
        rw [Bool.not_eq_true', beq_eq_false_iff_ne] at h9
        rw [show longG (ut x) ends4 = y.cps.toList from h.symm]
        exact h9
    unfold law7 st10 cutBy
    rw [longD_no hsu, long_eq okE4 hns, t_nil, t_ion, hs42]
    generalize longG (ut x) ends4 = e at hne
    by_cases h : e = []
    · subst h
      exact ⟨rfl, hx⟩
    · have h1 : (e == []) = false := by rw [beq_eq_false_iff_ne]; exact h
      have h2 : (e == [105, 111, 110]) = false := by
        rw [beq_eq_false_iff_ne]
        exact hne.resolve_left h
      rw [h1, h2, if_neg h, ut_len, ut_cut]
      dsimp only
      have hp : ∃ n, cutTo x ((x.length : Int) - (e.length : Int)) = x.take n := ⟨_, rfl⟩
      generalize cutTo x ((x.length : Int) - (e.length : Int)) = a at hp
      obtain ⟨n, rfl⟩ := hp
      have hg := hx.gd.prefix n
      have hiff := mgr1_iff hg
      rw [measure_ut hg]
      simp only [Bool.false_eq_true, if_false]
      cases hm : mgr1F (x.take n)
      · have h0 : ¬ 2 ≤ mz (x.take n) := fun c => by rw [hiff.mpr c] at hm; cases hm
        rw [if_neg (by omega), if_neg (by decide)]
        exact ⟨rfl, hx⟩
      · have h0 := hiff.mp hm
        rw [if_pos (by omega), if_pos rfl]
        exact ⟨rfl, hx.take (mgr1_ne hm)⟩
  · rw [hion] at hsu
    have hlF : longF x ends4 = none := by
      rw [long_eq okE4 hns]
      have : longG (ut x) ends4 = [] := longG_none ends4 [] (no4 hsu)
      rw [if_pos this]
    obtain ⟨T, hT⟩ := List.isSuffixOf_iff_suffix.mp hion
    rcases List.eq_nil_or_concat T with h | ⟨T', c, h⟩
    · subst h; exact absurd hT.symm hni
    subst h
    rw [List.concat_eq_append] at hT
    have hx2 : x = T' ++ c :: [105, 111, 110] := by rw [← hT]; simp
    have hlen : x.length = T'.length + 4 := by rw [hx2, List.length_append]; rfl
    have hgT : gd (T' ++ [c]) := gd.left (t := [105, 111, 110]) (by rw [hT]; exact hx.gd)
    have hiff := mgr1_iff hgT
    have hmle := mz_le hgT
    have hTl : (T' ++ [c]).length = T'.length + 1 := by simp
    have hcut : cutBy (ut x) endsD = ut (T' ++ [c]) := by
      unfold cutBy
      rw [longD_ion hsu, ut_len, ut_cut, show ((([105, 111, 110] : List Nat).length : Nat) : Int) = ((3 : Nat) : Int) from rfl, cutTo_nat x 3 (by omega)]
      congr 1
      rw [← hT, List.length_append, show ([105, 111, 110] : List Nat).length = 3 from rfl, Nat.add_sub_cancel, List.take_left]
    have hs42 : s42F x = if 4 < x.length ∧ (c == 115 || c == 116) = true then some T' else none := by
      unfold s42F
      rw [t_sion, t_tion]
      have e1 : ([115, 105, 111, 110] : List Nat).isSuffixOf x = (c == 115) := by rw [hx2]; exact suffix_one
      have e2 : ([116, 105, 111, 110] : List Nat).isSuffixOf x = (c == 116) := by rw [hx2]; exact suffix_one
      rw [e1, e2, show cutTo x (-4) = T' from by
        rw [show (-4 : Int) = -((4 : Nat) : Int) from rfl, cutTo_neg x 4 (by decide), hlen, Nat.add_sub_cancel, hx2, List.take_left]]
      simp only [Bool.or_eq_true]
    have hget : x.getD (x.length - 4) 0 = c := by
      rw [hlen, Nat.add_sub_cancel, hx2, List.getD_eq_getElem?_getD, List.getElem?_append_right (Nat.le_refl _), Nat.sub_self]; rfl
    unfold law7 st10
    rw [hcut, longD_ion hsu, hlF, hs42, t_nil, t_ion, measure_ut hgT, hget, if_neg (by decide), if_pos (show (([105, 111, 110] : List Nat) == [105, 111, 110]) = true from rfl)]
    have hlast : (ut (T' ++ [c])).getD ((ut (T' ++ [c])).length - 1) 0 = uc c := by
      rw [ut_append]; exact ionLast _ _
    rw [hlast, st_any]
    dsimp only
    cases hc : (c == 115 || c == 116)
    · rw [if_neg (show ¬ (4 < x.length ∧ false = true) by simp)]
      dsimp only
      rw [if_neg (show ¬ (false = true) by decide)]
      refine ⟨?_, hx⟩
      split <;> rfl
    · by_cases hm2 : 2 ≤ mz (T' ++ [c])
      · rw [if_pos (show 4 < x.length ∧ true = true from ⟨by omega, rfl⟩), if_pos (by omega), if_pos rfl]
        dsimp only
        rw [if_pos (hiff.mpr hm2)]
        refine ⟨rfl, ?_⟩
        rw [← hT] at hx
        exact hx.left (by simp)
      · rw [if_neg (by omega)]
        have hmf : mgr1F (T' ++ [c]) = false := by
          rw [Bool.eq_false_iff]; exact fun h => hm2 (hiff.mp h)
        by_cases h4 : 4 < x.length
        · rw [if_pos ⟨h4, rfl⟩]
          dsimp only
          rw [hmf, if_neg (by decide)]
          exact ⟨rfl, hx⟩
        · rw [if_neg (fun h => h4 h.1)]
          exact ⟨rfl, hx⟩
/-! the fifth step -/
theorem lastq {l : List Nat} {c : Nat} (h0 : c ≠ 0) : ([l.getD (l.length - 1) 0] == [c]) = [c].isSuffixOf l := by
  rw [one_beqL, Bool.eq_iff_iff, beq_iff_eq, List.isSuffixOf_iff_suffix]
  rcases List.eq_nil_or_concat l with h | ⟨T, z, h⟩
  · subst h
    constructor
    · intro h; exact absurd h.symm h0
    · rintro ⟨p, hp⟩; exact absurd hp (by simp)
  · subst h
    rw [List.concat_eq_append, ionLast]
    constructor
    · rintro rfl; exact ⟨T, rfl⟩
    · rintro ⟨p, hp⟩
      have := List.append_inj_right' hp rfl
      simp only [List.cons.injEq, and_true] at this
      exact this.symm
theorem t_e : (Str.ofString "e").cps.toList = [101] := rfl
theorem t_ll : (Str.ofString "ll").cps.toList = [108, 108] := rfl
theorem cut1last (T : List Nat) (c : Nat) : cutTo (T ++ [c]) (-1) = T ∧ cutTo (T ++ [c]) (((T ++ [c]).length : Int) - 1) = T := by
  constructor
  · rw [show (-1 : Int) = -((1 : Nat) : Int) from rfl, cutTo_neg _ 1 (by decide), List.length_append, List.length_singleton, Nat.add_sub_cancel, List.take_left]
  · rw [show (1 : Int) = ((1 : Nat) : Int) from rfl, cutTo_nat _ 1 (by simp), List.length_append, List.length_singleton, Nat.add_sub_cancel, List.take_left]
theorem st12_eq {b : Bool} {x : List Nat} (hx : gdb b x) : law8 (ut x) = ut (st12 x) ∧ gdb b (st12 x) := by
  have hsu := sfx_ut (e := [101]) (x := x) (by decide)
  unfold law8 st12 s5F
  rw [t_e, lastq (by decide), hsu]
  cases he : ([101] : List Nat).isSuffixOf x
  · rw [if_neg (by decide), if_neg (by simp)]
    exact ⟨rfl, hx⟩
  · obtain ⟨T, hT⟩ := List.isSuffixOf_iff_suffix.mp he
    have hl : x.length = T.length + 1 := by rw [← hT]; simp
    have hc1 : cutTo x (-1) = T := by rw [← hT]; exact (cut1last T 101).1
    have hc2 : cutTo x ((x.length : Int) - 1) = T := by rw [← hT]; exact (cut1last T 101).2
    have hgT : gd T := gd.left (t := [101]) (by rw [hT]; exact hx.gd)
    rw [if_pos rfl, ut_len, ut_cut, hc1, hc2, measure_ut hgT]
    by_cases hTn : T = []
    · subst hTn
      rw [if_neg (show ¬ (1 < x.length ∧ true = true) by rw [hl]; simp)]
      exact ⟨rfl, hx⟩
    · have hT0 : 0 < T.length := List.length_pos_iff.mpr hTn
      rw [if_pos (show 1 < x.length ∧ true = true from ⟨by omega, rfl⟩)]
      dsimp only
      have hgb : gdb b T := by
        rw [← hT] at hx
        exact hx.left hTn
      have h1 := mgr1_iff hgT
      have h2 := meq1_iff hgT
      have h3 := cv_iff hgT
      cases hm : mgr1F T
      · have hm2 : ¬ 2 ≤ mz T := fun c => by rw [h1.mpr c] at hm; cases hm
        rw [if_neg (show ¬ 1 < mz T by omega), if_neg (show ¬ (false = true) by decide)]
        cases hq : meq1F T
        · have hq2 : ¬ mz T = 1 := fun c => by rw [h2.mpr c] at hq; cases hq
          rw [if_neg hq2, if_neg (show ¬ (false = true) by decide)]
          exact ⟨rfl, hx⟩
        · have hq2 := h2.mp hq
          rw [if_pos hq2, if_pos rfl]
          cases hv : cvF T
          · have hv2 : ¬ shortF (ut T) = true := fun c => by rw [h3.mpr ⟨hq2, c⟩] at hv; cases hv
            rw [if_neg hv2, if_neg (show ¬ (false = true) by decide)]
            exact ⟨rfl, hgb⟩
          · rw [if_pos (h3.mp hv).2, if_pos rfl]
            exact ⟨rfl, hx⟩
      · have hm2 := h1.mp hm
        rw [if_pos (by omega), if_pos rfl]
        exact ⟨rfl, hgb⟩
theorem st14_eq {b : Bool} {x : List Nat} (hx : gdb b x) : law9 (ut x) = ut (st14 x) ∧ gdb b (st14 x) := by
  have hsu := sfx_ut (e := [108, 108]) (x := x) (by decide)
  unfold law9 st14
  rw [t_ll, hsu]
  cases he : ([108, 108] : List Nat).isSuffixOf x
  · rw [if_neg (by decide), if_neg (by decide)]
    exact ⟨rfl, hx⟩
  · obtain ⟨T, hT⟩ := List.isSuffixOf_iff_suffix.mp he
    have hT' : (T ++ [108]) ++ [108] = x := by rw [← hT]; simp
    have hc1 : cutTo x (-1) = T ++ [108] := by rw [← hT']; exact (cut1last _ 108).1
    have hc2 : cutTo x ((x.length : Int) - 1) = T ++ [108] := by rw [← hT']; exact (cut1last _ 108).2
    have h1 := mgr1_iff hx.gd
    rw [if_pos rfl, if_pos rfl, ut_len, ut_cut, hc1, hc2, measure_ut hx.gd]
    cases hm : mgr1F x
    · have hm2 : ¬ 2 ≤ mz x := fun c => by rw [h1.mpr c] at hm; cases hm
      rw [if_neg (by omega), if_neg (by decide)]
      exact ⟨rfl, hx⟩
    · have hm2 := h1.mp hm
      rw [if_pos (by omega), if_pos rfl]
      refine ⟨rfl, ?_⟩
      rw [← hT'] at hx
      exact hx.left (by simp)
end
section
theorem t_s : (Str.ofString "s").cps.toList = [115] := rfl
theorem t_ss : (Str.ofString "ss").cps.toList = [115, 115] := rfl
theorem t_sses : (Str.ofString "sses").cps.toList = [115, 115, 101, 115] := rfl
theorem t_ies : (Str.ofString "ies").cps.toList = [105, 101, 115] := rfl
theorem t_eed : (Str.ofString "eed").cps.toList = [101, 101, 100] := rfl
theorem t_ed : (Str.ofString "ed").cps.toList = [101, 100] := rfl
theorem t_ing : (Str.ofString "ing").cps.toList = [105, 110, 103] := rfl
theorem t_ee : (Str.ofString "ee").cps.toList = [101, 101] := rfl
theorem t_y : (Str.ofString "y").cps.toList = [121] := rfl
theorem t_i : (Str.ofString "i").cps.toList = [105] := rfl
theorem t_Y : (Str.ofString "Y").cps.toList = [89] := rfl
theorem sfx_trans {e d x : List Nat} (h : e.isSuffixOf x = true) (hd : d.isSuffixOf e = true) : d.isSuffixOf x = true := by
  rw [List.isSuffixOf_iff_suffix] at *
  exact hd.trans h
theorem longA (l : List Nat) : longG l endsA = if ([115, 115, 101, 115] : List Nat).isSuffixOf l = true then [115, 115, 101, 115] else if ([105, 101, 115] : List Nat).isSuffixOf l = true then [105, 101, 115] else if ([115, 115] : List Nat).isSuffixOf l = true then [115, 115] else if ([115] : List Nat).isSuffixOf l = true then [115] else [] := by
  unfold longG endsA
  simp only [List.foldl_cons, List.foldl_nil]
  unfold stepG
  rw [t_s, t_ss, t_sses, t_ies]
  cases h1 : ([115, 115, 101, 115] : List Nat).isSuffixOf l <;> cases h2 : ([105, 101, 115] : List Nat).isSuffixOf l <;> cases h3 : ([115, 115] : List Nat).isSuffixOf l <;> cases h4 : ([115] : List Nat).isSuffixOf l <;> simp
theorem longB (l : List Nat) : longG l endsB = if ([101, 101, 100] : List Nat).isSuffixOf l = true then [101, 101, 100] else if ([105, 110, 103] : List Nat).isSuffixOf l = true then [105, 110, 103] else if ([101, 100] : List Nat).isSuffixOf l = true then [101, 100] else [] := by
  unfold longG endsB
  simp only [List.foldl_cons, List.foldl_nil]
  unfold stepG
  rw [t_eed, t_ed, t_ing]
  cases h1 : ([101, 101, 100] : List Nat).isSuffixOf l <;> cases h2 : ([105, 110, 103] : List Nat).isSuffixOf l <;> cases h3 : ([101, 100] : List Nat).isSuffixOf l <;> simp
theorem two_last (T : List Nat) (c d : Nat) : (T ++ [c, d]).getD ((T ++ [c, d]).length - 2) 0 = c := by
  rw [List.getD_eq_getElem?_getD, List.length_append, show [c, d].length = 2 from rfl, Nat.add_sub_cancel, List.getElem?_append_right (Nat.le_refl _), Nat.sub_self]; rfl
theorem ss_iff {x : List Nat} (h : 2 ≤ x.length) (h4 : ([115] : List Nat).isSuffixOf x = true) : ([115, 115] : List Nat).isSuffixOf x = ([x.getD (x.length - 2) 0] == [115]) := by
  obtain ⟨T, hT⟩ := List.isSuffixOf_iff_suffix.mp h4
  rcases List.eq_nil_or_concat T with h' | ⟨T', c, h'⟩
  · subst h'; rw [← hT] at h; exact absurd h (by decide)
  · subst h'
    have hx : x = T' ++ [c, 115] := by rw [← hT, List.concat_eq_append]; simp
    rw [hx, two_last, one_beqL, Bool.eq_iff_iff, beq_iff_eq, List.isSuffixOf_iff_suffix]
    constructor
    · rintro ⟨p, hp⟩
      have := List.append_inj_right' hp rfl
      simp only [List.cons.injEq, and_true] at this
      exact this.symm
    · rintro rfl; exact ⟨T', rfl⟩
theorem cutTo_all (x : List Nat) : cutTo x ((x.length : Int) - 0) = x := by
  rw [show (0 : Int) = ((0 : Nat) : Int) from rfl, cutTo_nat x 0 (Nat.zero_le _), Nat.sub_zero, List.take_length]
theorem cut12 (x : List Nat) (h : 2 ≤ x.length) : cutTo x ((x.length : Int) - 2) = cutTo x (-2) ∧ cutTo x ((x.length : Int) - 1) = cutTo x (-1) := by
  constructor
  · rw [show ((x.length : Int) - 2) = (x.length : Int) - ((2 : Nat) : Int) from rfl, cutTo_nat x 2 h, show (-2 : Int) = -((2 : Nat) : Int) from rfl, cutTo_neg x 2 (by decide)]
  · rw [show ((x.length : Int) - 1) = (x.length : Int) - ((1 : Nat) : Int) from rfl, cutTo_nat x 1 (by omega), show (-1 : Int) = -((1 : Nat) : Int) from rfl, cutTo_neg x 1 (by decide)]
theorem law1_eq {x : List Nat} (h : 3 ≤ x.length) : law1 (ut x) = ut (st3 x) := by
  have hc := cut12 x (by omega)
  unfold law1 st3
  rw [longA, t_s, t_sses, t_ies, sfx_ut (by decide), sfx_ut (by decide), sfx_ut (by decide), sfx_ut (by decide), ut_len, ut_cut]
  congr 1
  cases h4 : ([115] : List Nat).isSuffixOf x
  · have n1 : ([115, 115, 101, 115] : List Nat).isSuffixOf x = false := by
      rw [Bool.eq_false_iff]; intro h1
      rw [sfx_trans h1 (by decide)] at h4; cases h4
    have n2 : ([105, 101, 115] : List Nat).isSuffixOf x = false := by
      rw [Bool.eq_false_iff]; intro h1
      rw [sfx_trans h1 (by decide)] at h4; cases h4
    have n3 : ([115, 115] : List Nat).isSuffixOf x = false := by
      rw [Bool.eq_false_iff]; intro h1
      rw [sfx_trans h1 (by decide)] at h4; cases h4
    rw [n1, n2, n3]
    exact cutTo_all x
  · rw [← ss_iff (by omega) h4]
    cases h1 : ([115, 115, 101, 115] : List Nat).isSuffixOf x
    · cases h2 : ([105, 101, 115] : List Nat).isSuffixOf x
      · cases h3 : ([115, 115] : List Nat).isSuffixOf x
        · exact hc.2
        · exact cutTo_all x
      · exact hc.1
    · exact hc.1
theorem st3_gdb {b : Bool} {x : List Nat} (hx : gdb b x) (h : 3 ≤ x.length) : gdb b (st3 x) := by
  have h1 : gdb b (cutTo x (-2)) := by
    rw [show (-2 : Int) = -((2 : Nat) : Int) from rfl, cutTo_neg x 2 (by decide)]
    exact hx.take (ne_nil (by rw [List.length_take]; omega))
  have h2 : gdb b (cutTo x (-1)) := by
    rw [show (-1 : Int) = -((1 : Nat) : Int) from rfl, cutTo_neg x 1 (by decide)]
    exact hx.take (ne_nil (by rw [List.length_take]; omega))
  unfold st3
  repeat' split
  all_goals assumption
theorem st3_y (a : List Nat) : st3 (a ++ [121]) = a ++ [121] := by
  unfold st3
  rw [t_s, sfx_y (by decide) (by decide), if_neg (by decide)]
theorem last_sfx {T e : List Nat} {c : Nat} (h : e.isSuffixOf (T ++ [c]) = true) (hne : e ≠ []) : ∃ e', e = e' ++ [c] ∧ e'.isSuffixOf T = true := by
  obtain ⟨p, hp⟩ := List.isSuffixOf_iff_suffix.mp h
  rcases List.eq_nil_or_concat e with h' | ⟨e', z, h'⟩
  · exact absurd h' hne
  · subst h'
    rw [List.concat_eq_append, ← List.append_assoc] at hp
    have h1 := List.append_inj' hp rfl
    simp only [List.cons.injEq, and_true] at h1
    exact ⟨e', by rw [List.concat_eq_append, h1.2], List.isSuffixOf_iff_suffix.mpr ⟨p, h1.1⟩⟩
theorem st3_ys (a : List Nat) : st3 (a ++ [121, 115]) = a ++ [121] := by
  have hx : a ++ [121, 115] = (a ++ [121]) ++ [115] := by simp
  have h4 : ([115] : List Nat).isSuffixOf (a ++ [121, 115]) = true := List.isSuffixOf_iff_suffix.mpr ⟨a ++ [121], by simp⟩
  have n1 : ([115, 115, 101, 115] : List Nat).isSuffixOf (a ++ [121, 115]) = false := by
    rw [Bool.eq_false_iff]; intro h
    rw [hx] at h
    obtain ⟨e', he, hs⟩ := last_sfx h (by decide)
    have : e' = [115, 115, 101] := by
      have h9 := List.append_inj_left' (s₁ := [115, 115, 101]) (t₁ := [115]) he rfl
      exact h9.symm
    rw [this, sfx_y (by decide) (by decide)] at hs; cases hs
  have n2 : ([105, 101, 115] : List Nat).isSuffixOf (a ++ [121, 115]) = false := by
    rw [Bool.eq_false_iff]; intro h
    rw [hx] at h
    obtain ⟨e', he, hs⟩ := last_sfx h (by decide)
    have : e' = [105, 101] := by
      have h9 := List.append_inj_left' (s₁ := [105, 101]) (t₁ := [115]) he rfl
      exact h9.symm
    rw [this, sfx_y (by decide) (by decide)] at hs; cases hs
  unfold st3
  rw [t_s, t_sses, t_ies, h4, n1, n2, two_last]
  simp only [Bool.false_eq_true, if_false, if_true]
  rw [if_neg (by decide), hx]
  exact (cut1last _ 115).1
/-! ed, ing -/
theorem t_at : (Str.ofString "at").cps.toList = [97, 116] := rfl
theorem t_bl : (Str.ofString "bl").cps.toList = [98, 108] := rfl
theorem t_iz : (Str.ofString "iz").cps.toList = [105, 122] := rfl
theorem abi_no {T : List Nat} (h : abiF T = true) : (longG (ut T) endsC == []) = false := by
  unfold abiF at h
  rw [t_at, t_bl, t_iz, Bool.or_eq_true, Bool.or_eq_true, beq_iff_eq, beq_iff_eq, beq_iff_eq] at h
  rcases h with rfl | rfl | rfl <;> decide +kernel
theorem VZ_eq : VZ = [97, 101, 105, 111, 117, 121, 108, 115, 122] := rfl
theorem s1b_no {T : List Nat} (h : s1bF T = true) : dblV (ut T) = true := by
  unfold s1bF at h
  rw [Bool.and_eq_true, Bool.and_eq_true, decide_eq_true_eq, beq_iff_eq] at h
  obtain ⟨hl, he, hz⟩ := h
  match T, hl with
  | [c, d], _ =>
    have he' : c = d := he
    subst he'
    have hz' : (!VZ.contains c) = true := hz
    have hl2 : (ut [c, c]).length = 2 := rfl
    unfold dblV
    rw [hl2]
    show (decide (1 < 2) && (([uc c] == [uc c]) && notIn _ (uc c))) = true
    rw [beq_self_eq_true, Bool.true_and, show decide (1 < 2) = true from rfl, Bool.true_and]
    unfold notIn
    rw [show Str.ofString "a" = S [97] from rfl, show Str.ofString "e" = S [101] from rfl, show Str.ofString "i" = S [105] from rfl, show Str.ofString "o" = S [111] from rfl, show Str.ofString "u" = S [117] from rfl, show Str.ofString "l" = S [108] from rfl, show Str.ofString "s" = S [115] from rfl, show Str.ofString "z" = S [122] from rfl]
    simp only [List.any_cons, List.any_nil, one_beq, Bool.or_false]
    rw [VZ_eq] at hz'
    simp at hz'
    unfold uc
    split
    · decide
    · simp
      omega
/-- what is left when ed or ing goes -/
noncomputable def tailL (l z : List Nat) : Option (List Nat) :=
  if voicedF z then
    (if longG z endsC == [] then
      (if dblV z then none
       else if measureF z = 1 then (if shortF z then some (z ++ [101]) else some z)
       else some z)
     else none)
  else some l
noncomputable def tailS (x a : List Nat) : List Nat := if svF a then (if abiF a then a ++ [101] else if s1bF a then cutTo a (-1) else if cvF a then a ++ [101] else a) else x
theorem ok_lit {r : List Nat} (h : r.all okC = true) : okL r := List.all_eq_true.mp h
theorem tail_eq {b : Bool} {x a t : List Nat} (hx : gdb b x) (ha : x = a ++ t) : tailL (ut x) (ut a) = none ∨ (tailL (ut x) (ut a) = some (ut (tailS x a)) ∧ gdb b (tailS x a)) := by
  have hga : gd a := gd.left (t := t) (by rw [← ha]; exact hx.gd)
  unfold tailL tailS
  rw [sv_ut hga]
  cases hv : svF a
  · exact .inr ⟨rfl, hx⟩
  · have hgb : gdb b a := by
      rw [ha] at hx
      exact hx.left (sv_ne hv)
    rw [if_pos rfl, if_pos rfl]
    cases hb : abiF a
    · cases hC : (longG (ut a) endsC == [])
      · exact .inl rfl
      · cases hs : s1bF a
        · cases hd : dblV (ut a)
          · have h3 := cv_iff hga
            rw [measure_ut hga]
            simp only [if_true, Bool.false_eq_true, if_false]
            cases hcv : cvF a
            · have hno : ¬ (mz a = 1 ∧ shortF (ut a) = true) := fun c => by rw [h3.mpr c] at hcv; cases hcv
              refine .inr ?_
              simp only [Bool.false_eq_true, if_false]
              refine ⟨?_, hgb⟩
              by_cases h1 : mz a = 1
              · rw [if_pos h1, if_neg (fun c => hno ⟨h1, c⟩)]
              · rw [if_neg h1]
            · have hyes := h3.mp hcv
              refine .inr ?_
              simp only [if_true]
              rw [if_pos hyes.1, if_pos hyes.2]
              exact ⟨by rw [ut_append]; rfl, hgb.app (ok_lit (by decide))⟩
          · exact .inl rfl
        · rw [s1b_no hs]
          exact .inl rfl
    · rw [abi_no hb]
      exact .inl rfl
theorem no_ing {x : List Nat} (h : ([101, 100] : List Nat).isSuffixOf x = true) : ([105, 110, 103] : List Nat).isSuffixOf x = false := by
  rw [Bool.eq_false_iff]
  intro h2
  obtain ⟨T, rfl⟩ := List.isSuffixOf_iff_suffix.mp h
  have h3 : T ++ [101, 100] = (T ++ [101]) ++ [100] := by simp
  rw [h3] at h2
  obtain ⟨e', he, _⟩ := last_sfx h2 (by decide)
  have h9 := List.append_inj_right' (s₁ := [105, 110]) (t₁ := [103]) he rfl
  exact absurd h9 (by decide)
theorem st4_gd {b : Bool} {x : List Nat} (hx : gdb b x) : law2 (ut x) = none ∨ (law2 (ut x) = some (ut (st4 x)) ∧ gdb b (st4 x)) := by
  have h1 := sfx_ut (e := [101, 101, 100]) (x := x) (by decide)
  have h2 := sfx_ut (e := [105, 110, 103]) (x := x) (by decide)
  have h3 := sfx_ut (e := [101, 100]) (x := x) (by decide)
  have hB := longB (ut x)
  rw [h1, h2, h3] at hB
  cases s1 : ([101, 101, 100] : List Nat).isSuffixOf x
  · rw [s1] at hB
    cases s3 : ([101, 100] : List Nat).isSuffixOf x
    · rw [s3] at hB
      cases s2 : ([105, 110, 103] : List Nat).isSuffixOf x
      · rw [s2] at hB
        have hB' : longG (ut x) endsB = [] := hB
        refine .inr ?_
        unfold law2 st4 edF
        rw [hB', t_eed, t_ed, t_ing, s1, s2, s3]
        exact ⟨rfl, hx⟩
      · rw [s2] at hB
        have hB' : longG (ut x) endsB = [105, 110, 103] := hB
        obtain ⟨T, hT⟩ := List.isSuffixOf_iff_suffix.mp s2
        have hl : x.length = T.length + 3 := by rw [← hT, List.length_append]; rfl
        have hcut : cutBy (ut x) endsB = ut T := by
          unfold cutBy
          rw [hB', ut_len, ut_cut, show ((([105, 110, 103] : List Nat).length : Nat) : Int) = ((3 : Nat) : Int) from rfl, cutTo_nat x 3 (by omega), hl, Nat.add_sub_cancel, ← hT, List.take_left]
        have hcut3 : cutTo x (-3) = T := by
          rw [show (-3 : Int) = -((3 : Nat) : Int) from rfl, cutTo_neg x 3 (by decide), hl, Nat.add_sub_cancel, ← hT, List.take_left]
        have e1 : law2 (ut x) = tailL (ut x) (ut T) := by
          unfold law2
          rw [hcut, hB']; rfl
        have e2 : st4 x = tailS x T := by
          unfold st4 edF
          rw [t_eed, t_ed, t_ing, s1, s2, s3, hcut3]; rfl
        rw [e1, e2]
        exact tail_eq hx hT.symm
    · rw [s3, no_ing s3] at hB
      have hB' : longG (ut x) endsB = [101, 100] := hB
      obtain ⟨T, hT⟩ := List.isSuffixOf_iff_suffix.mp s3
      have hl : x.length = T.length + 2 := by rw [← hT, List.length_append]; rfl
      have hcut : cutBy (ut x) endsB = ut T := by
        unfold cutBy
        rw [hB', ut_len, ut_cut, show ((([101, 100] : List Nat).length : Nat) : Int) = ((2 : Nat) : Int) from rfl, cutTo_nat x 2 (by omega), hl, Nat.add_sub_cancel, ← hT, List.take_left]
      have hcut3 : cutTo x (-2) = T := by
        rw [show (-2 : Int) = -((2 : Nat) : Int) from rfl, cutTo_neg x 2 (by decide), hl, Nat.add_sub_cancel, ← hT, List.take_left]
      have e1 : law2 (ut x) = tailL (ut x) (ut T) := by
        unfold law2
        rw [hcut, hB']; rfl
      have e2 : st4 x = tailS x T := by
        unfold st4 edF
        rw [t_eed, t_ed, t_ing, s1, s3, hcut3]; rfl
      rw [e1, e2]
      exact tail_eq hx hT.symm
  · rw [s1] at hB
    have hB' : longG (ut x) endsB = [101, 101, 100] := hB
    obtain ⟨T, hT⟩ := List.isSuffixOf_iff_suffix.mp s1
    have hl : x.length = T.length + 3 := by rw [← hT, List.length_append]; rfl
    have hgT : gd T := gd.left (t := [101, 101, 100]) (by rw [hT]; exact hx.gd)
    have hcut : cutBy (ut x) endsB = ut T := by
      unfold cutBy
      rw [hB', ut_len, ut_cut, show ((([101, 101, 100] : List Nat).length : Nat) : Int) = ((3 : Nat) : Int) from rfl, cutTo_nat x 3 (by omega), hl, Nat.add_sub_cancel, ← hT, List.take_left]
    have hcut3 : cutTo x (-3) = T := by
      rw [show (-3 : Int) = -((3 : Nat) : Int) from rfl, cutTo_neg x 3 (by decide), hl, Nat.add_sub_cancel, ← hT, List.take_left]
    have hx' : x = (T ++ [101, 101]) ++ [100] := by rw [← hT]; simp
    have hcut1 : cutTo x (-1) = T ++ [101, 101] := by rw [hx']; exact (cut1last _ 100).1
    refine .inr ?_
    unfold law2 st4
    rw [hcut, hB', t_eed, s1, hcut3, hcut1, measure_ut hgT, t_ee]
    have hiff := mgr0_iff hgT
    cases hm : mgr0F T
    · have hm2 : ¬ 0 < mz T := fun c => by rw [hiff.mpr c] at hm; cases hm
      rw [if_neg hm2]
      exact ⟨rfl, hx⟩
    · have hm2 : 0 < mz T := hiff.mp hm
      rw [if_pos hm2]
      refine ⟨?_, ?_⟩
      · show some (ut T ++ [101, 101]) = some (ut (T ++ [101, 101]))
        rw [ut_append]; rfl
      · show gdb b (T ++ [101, 101])
        rw [hx'] at hx
        exact hx.left (by simp)
theorem ut_y (a : List Nat) : ut (a ++ [121]) = ut a ++ [121] := by rw [ut_append]; rfl
theorem st4_y (a : List Nat) : law2 (ut (a ++ [121])) = some (ut (a ++ [121])) ∧ st4 (a ++ [121]) = a ++ [121] := by
  have k : ∀ T : List Nat, longG (T ++ [121]) endsB = [] := fun T => by
    rw [longB, sfx_y (by decide) (by decide), sfx_y (by decide) (by decide), sfx_y (by decide) (by decide)]; rfl
  constructor
  · rw [ut_y]
    unfold law2
    rw [k]; rfl
  · unfold st4 edF
    rw [t_eed, t_ed, t_ing, sfx_y (by decide) (by decide), sfx_y (by decide) (by decide), sfx_y (by decide) (by decide)]; rfl
theorem st5_gd {b : Bool} {x : List Nat} (hx : gdb b x) : law3 (ut x) = ut x ∧ st5 x = x := by
  constructor
  · unfold law3
    rw [t_y, lastq (by decide)]
    cases h : ([121] : List Nat).isSuffixOf (ut x)
    · rfl
    · obtain ⟨r, hr, hxr⟩ := hx
      rcases List.eq_nil_or_concat r with h' | ⟨r', c, h'⟩
      · subst h'
        rw [hxr]
        cases b <;> decide +kernel
      · subst h'
        exfalso
        obtain ⟨T, hT⟩ := List.isSuffixOf_iff_suffix.mp h
        rw [hxr, ut_append, ut_ok hr, List.concat_eq_append, ← List.append_assoc] at hT
        have h9 := List.append_inj_right' hT rfl
        simp only [List.cons.injEq, and_true] at h9
        have := okC_iff.mp (hr c (by rw [List.concat_eq_append]; simp))
        omega
  · unfold st5
    rw [t_y]
    cases h : ([121] : List Nat).isSuffixOf x
    · rfl
    · exfalso
      obtain ⟨T, hT⟩ := List.isSuffixOf_iff_suffix.mp h
      exact hx.gd.ne121 121 (by rw [← hT]; simp) rfl
theorem st5_y {b : Bool} {a : List Nat} (ha : gdb b a) : law3 (ut (a ++ [121])) = ut (st5 (a ++ [121])) ∧ (gdb b (st5 (a ++ [121])) ∨ st5 (a ++ [121]) = a ++ [121]) := by
  have h1 : ([121] : List Nat).isSuffixOf (a ++ [121]) = true := List.isSuffixOf_iff_suffix.mpr ⟨a, rfl⟩
  have h2 : ([121] : List Nat).isSuffixOf (ut a ++ [121]) = true := List.isSuffixOf_iff_suffix.mpr ⟨ut a, rfl⟩
  unfold law3 st5
  rw [t_y, t_i, lastq (by decide), ut_y, h2, h1, (cut1last (ut a) 121).2, (cut1last a 121).1, sv_ut ha.gd]
  cases hv : svF a
  · exact ⟨(ut_y a).symm, .inr rfl⟩
  · refine ⟨?_, .inl (ha.app (ok_lit (by decide)))⟩
    show ut a ++ [105] = ut (a ++ [105])
    rw [ut_append]; rfl
/-! all of it -/
noncomputable def restL (l : List Nat) : List Nat := law9 (law8 (law7 (lawStepF (lawStepF l second) third)))
noncomputable def restS (x : List Nat) : List Nat := st14 (st12 (st10 (stP ends3 third (stP ends2 second x))))
theorem rest_gd {b : Bool} {x : List Nat} (hx : gdb b x) (hz : x ≠ (Str.ofString "ization").cps.toList) : restL (ut x) = ut (restS x) ∧ gdb b (restS x) := by
  have h1 := second_eq hx hz
  have h2 := third_eq h1.2
  have h3 := st10_eq h2.2
  have h4 := st12_eq h3.2
  have h5 := st14_eq h4.2
  unfold restL restS
  rw [h1.1, h2.1, h3.1, h4.1, h5.1]
  exact ⟨rfl, h5.2⟩
theorem no_y {ys : List Str} (h : ys.all okE = true) (T : List Nat) : ∀ y ∈ ys, y.cps.toList.isSuffixOf (T ++ [121]) = false := fun y hy =>
  sfx_y (okE_ne (List.all_eq_true.mp h y hy)).1 fun c hc => ((okE_ne (List.all_eq_true.mp h y hy)).2 c hc).2
theorem longF_y {ys : List Str} (h : ys.all okE = true) (a : List Nat) : longF (a ++ [121]) ys = none := by
  rw [long_eq h, ut_y]
  · have : longG (ut a ++ [121]) ys = [] := longG_none ys [] (no_y h _)
    rw [if_pos this]
  · intro y hy e
    have h2 := (okE_ne (List.all_eq_true.mp h y hy)).2 121 (by rw [← e]; simp)
    exact h2.2 rfl
theorem step_y {prs : List (Str × Str)} {ends : List Str} (he : prs.map Prod.fst = ends) (h : ends.all okE = true) (T : List Nat) : lawStepF (T ++ [121]) prs = T ++ [121] := by
  unfold lawStepF
  rw [he]
  have : longG (T ++ [121]) ends = [] := longG_none ends [] (no_y h _)
  rw [this]
  dsimp only
  rw [if_pos (.inl rfl)]
theorem rest_y (a : List Nat) : restL (ut (a ++ [121])) = ut (a ++ [121]) ∧ restS (a ++ [121]) = a ++ [121] := by
  constructor
  · rw [ut_y]
    unfold restL
    rw [step_y (ends := ends2) rfl okE2, step_y (ends := ends3) rfl okE3]
    have h7 : law7 (ut a ++ [121]) = ut a ++ [121] := by
      unfold law7
      have : longG (ut a ++ [121]) endsD = [] := longG_none endsD [] (no_y okED _)
      rw [this]; rfl
    have h8 : law8 (ut a ++ [121]) = ut a ++ [121] := by
      unfold law8
      rw [t_e, lastq (by decide), sfx_y (by decide) (by decide)]; rfl
    have h9 : law9 (ut a ++ [121]) = ut a ++ [121] := by
      unfold law9
      rw [t_ll, sfx_y (by decide) (by decide)]; rfl
    rw [h7, h8, h9]
  · unfold restS
    have h2 : stP ends2 second (a ++ [121]) = a ++ [121] := by unfold stP; rw [longF_y okE2]
    have h3 : stP ends3 third (a ++ [121]) = a ++ [121] := by unfold stP; rw [longF_y okE3]
    have h10 : st10 (a ++ [121]) = a ++ [121] := by
      have : s42F (a ++ [121]) = none := by
        unfold s42F
        rw [t_sion, t_tion, sfx_y (by decide) (by decide), sfx_y (by decide) (by decide), if_neg (by simp)]
      unfold st10
      rw [longF_y okE4, this]
    have h12 : st12 (a ++ [121]) = a ++ [121] := by
      have : s5F (a ++ [121]) = none := by
        unfold s5F
        rw [t_e, sfx_y (by decide) (by decide), if_neg (by simp)]
      unfold st12
      rw [this]
    have h14 : st14 (a ++ [121]) = a ++ [121] := by
      unfold st14
      rw [t_ll, sfx_y (by decide) (by decide)]; rfl
    rw [h2, h3, h10, h12, h14]
theorem st15_ut {b : Bool} {x r : List Nat} (hr : ∀ c ∈ r, c ≠ 89) (hx : x = pre b ++ r) : st15 b x = ut x := by
  subst hx
  rw [ut_append, ut_id hr]
  cases b <;> rfl
theorem st15_gd {b : Bool} {x : List Nat} (hx : gdb b x) : st15 b x = ut x := by
  obtain ⟨r, hr, e⟩ := hx
  exact st15_ut (ok_ne89 hr) e
theorem st15_y {b : Bool} {a : List Nat} (ha : gdb b a) : st15 b (a ++ [121]) = ut (a ++ [121]) := by
  obtain ⟨r, hr, e⟩ := ha
  refine st15_ut (r := r ++ [121]) (fun c hc => ?_) (by rw [e, List.append_assoc])
  rcases List.mem_append.mp hc with h | h
  · exact ok_ne89 hr c h
  · rw [List.mem_singleton.mp h]; decide
/-- from the word behind the first step's y to the end -/
theorem fin_eq {b : Bool} {x5 : List Nat} (h : gdb b x5 ∨ ∃ a, gdb b a ∧ x5 = a ++ [121]) :
    (if ut x5 == (Str.ofString "ization").cps.toList then none else some (restL (ut x5))) = none ∨
    (if ut x5 == (Str.ofString "ization").cps.toList then none else some (restL (ut x5))) = some (st15 b (restS x5)) := by
  cases hz : (ut x5 == (Str.ofString "ization").cps.toList)
  · refine .inr ?_
    rw [if_neg (by decide)]
    rcases h with h | ⟨a, ha, rfl⟩
    · have hne : x5 ≠ (Str.ofString "ization").cps.toList := by
        rintro rfl
        exact absurd hz (by decide +kernel)
      have h1 := rest_gd h hne
      rw [h1.1, st15_gd h1.2]
    · have h1 := rest_y a
      rw [h1.1, h1.2, st15_y ha]
  · exact .inl rfl
theorem law_stem {b : Bool} {x : List Nat} (hl : 3 ≤ x.length) (h : gdb b x ∨ (∃ a, gdb b a ∧ x = a ++ [121]) ∨ (∃ a, gdb b a ∧ x = a ++ [121, 115])) (hf : firstY (ut x) = b) (h2 : st2 b (ut x) = x) :
    lawF (ut x) = none ∨ lawF (ut x) = some (stemF (ut x)) := by
  have hlu : ¬ (ut x).length < 3 := by rw [ut_len]; omega
  have hstem : stemF (ut x) = st15 b (restS (st5 (st4 (st3 x)))) := by
    unfold stemF
    rw [if_neg hlu, hf, h2]; rfl
  have hlaw : lawF (ut x) = match law2 (ut (st3 x)) with
      | none => none
      | some z => if law3 z == (Str.ofString "ization").cps.toList then none else some (restL (law3 z)) := by
    unfold lawF
    rw [if_neg hlu, law1_eq hl]; rfl
  rw [hlaw, hstem]
  have h3 : gdb b (st3 x) ∨ ∃ a, gdb b a ∧ st3 x = a ++ [121] := by
    rcases h with h | ⟨a, ha, rfl⟩ | ⟨a, ha, rfl⟩
    · exact .inl (st3_gdb h hl)
    · exact .inr ⟨a, ha, st3_y a⟩
    · exact .inr ⟨a, ha, st3_ys a⟩
  generalize st3 x = x3 at h3
  rcases h3 with h3 | ⟨a, ha, rfl⟩
  · rcases st4_gd h3 with h4 | ⟨h4, hg4⟩
    · rw [h4]; exact .inl rfl
    · rw [h4]
      have h5 := st5_gd hg4
      dsimp only
      rw [h5.1, h5.2]
      exact fin_eq (.inl hg4)
  · have h4 := st4_y a
    have h5 := st5_y ha
    rw [h4.1, h4.2]
    dsimp only
    rw [h5.1]
    exact fin_eq (h5.2.imp id fun e => ⟨a, ha, e⟩)
theorem sufW_cases (f : Int) : sufW f = [] ∨ sufW f = [121] ∨ sufW f = [121, 115] ∨ sufW f = [115] := by
  unfold sufW
  generalize ((f.fdiv 2).fmod 4).toNat = k
  match k with
  | 0 => exact .inl rfl
  | 1 => exact .inr (.inl rfl)
  | 2 => exact .inr (.inr (.inl rfl))
  | 3 => exact .inr (.inr (.inr rfl))
  | k + 4 => exact .inl rfl
theorem plain (f : Int) (l : List Nat) (hl : okL l) : lawF (fullW f l) = none ∨ lawF (fullW f l) = some (stemF (fullW f l)) := by
  by_cases h3 : (fullW f l).length < 3
  · refine .inr ?_
    unfold lawF stemF
    rw [if_pos h3, if_pos h3]
  have hs := sufW_cases f
  have hc : okL (cutTo l 18) := hl.take _
  have hb : ∃ b, preW f = ut (pre b) := by
    unfold preW
    split
    · exact ⟨true, rfl⟩
    · exact ⟨false, rfl⟩
  obtain ⟨b, hb⟩ := hb
  have hsu : ut (sufW f) = sufW f := by
    rcases hs with h | h | h | h <;> rw [h] <;> rfl
  have hga : gdb b (pre b ++ cutTo l 18) := ⟨_, hc, rfl⟩
  have e : fullW f l = ut ((pre b ++ cutTo l 18) ++ sufW f) := by
    unfold fullW
    rw [ut_append, ut_append, hsu, ut_ok hc, hb]
  have hlen : (fullW f l).length = ((pre b ++ cutTo l 18) ++ sufW f).length := by rw [e, ut_len]
  rw [e]
  refine law_stem (b := b) (by omega) ?_ ?_ ?_
  · rcases hs with h | h | h | h
    · rw [h, List.append_nil]; exact .inl hga
    · rw [h]; exact .inr (.inl ⟨_, hga, rfl⟩)
    · rw [h]; exact .inr (.inr ⟨_, hga, rfl⟩)
    · rw [h]; exact .inl (hga.app (ok_lit (by decide)))
  · rw [ut_append, ut_append, hsu, ut_ok hc]
    cases b
    · rw [hlen] at h3
      cases hcut : cutTo l 18 with
      | nil =>
        rw [hcut] at h3
        rcases hs with h | h | h | h <;> rw [h] at h3 <;> exact absurd h3 (by decide)
      | cons c r =>
        have := okC_iff.mp (hc c (by rw [hcut]; exact .head _))
        show ([c] == (Str.ofString "y").cps.toList) = false
        rw [t_y, one_beqL, beq_eq_false_iff_ne]
        omega
    · rfl
  · rw [ut_append, ut_append, hsu, ut_ok hc]
    cases b <;> rfl
end
end Mine
theorem PySem.Challenge.cw_iv0075_01_holds : PySem.Challenge.rw_iv0075_01.Holds :=
  Mine.rowH Mine.plain
