import PyProof.Rows.All
import Wide.All
import OpenK.AllK
import Wide.FinOn
import PyProof.TupleKey
import KE.KRevIter
import KE.KPairComp
import PyProof.WalksEnum
import PyProof.EnumMake
import PyProof.EnumStmt
import KE.KSlice
import KE.KLcTest
import PyProof.Cells
import Lean
import PySem.Challenge.RW_pg0216_01
open PySem PySem.W PyProof.Rows
set_option Elab.async false
set_option linter.all false
set_option compiler.extract_closed false
section
open PySem PySem.W PyProof.Rows
set_option Elab.async false
set_option maxRecDepth 100000
set_option maxHeartbeats 8000000
namespace Mine
open_top hd for PySem.Challenge.rw_pg0216_01
end Mine
end

section
open PySem PySem.W PyProof.Rows
set_option Elab.async false
set_option maxRecDepth 100000
set_option maxHeartbeats 8000000
namespace Mine
noncomputable abbrev Spc (w : World) (mean : ExcName → Option Value) (mg mb : Str → Option Value) (f : Addr) (dd : Nat) (news : List (Addr × Obj)) (vs : List Value)
    (Ret : Heap → Addr → (Str → Option Value) → Shared → (Value → Shared → Prop) → Prop) : Prop :=
  ∀ (dp un : Nat) (gd : Option (List Code)) (cn : Str) (cs : Scope) (a : Addr) (ccd : Value) (cl : List (Str × Addr)) (outer : List Env) (A₀ : Around) (base h₀ : Heap) (L : Addr) (m : Str → Option Value) (s : Shared) (Q E : Value → Shared → Prop),
    Below A₀ base outer h₀ → Fr h₀ L s.heap m → (Mine.hd.heap_39 w.params).In h₀ → News h₀ L s.heap news → Top Mine.hd.view_39 [Str.ofString "bisect_right", Str.ofString "bisect_left"] mean mg mb h₀ → cs.kind = .function →
    dp + dd < recursionLimit → un + 8 * dd < cLine → Ret h₀ L m s Q →
      wpAny (model PySem.Challenge.rw_pg0216_01.row.prog w) (ktrTop dp un gd cn cs L a ccd cl outer) (call (.ref f) vs) Q E s
noncomputable abbrev RetV (news : List (Addr × Obj)) (R : Tok → Value) : Heap → Addr → (Str → Option Value) → Shared → (Value → Shared → Prop) → Prop :=
  fun h₀ L m s Q => ∀ (t : Tok) (h' : Heap) (tk' : Nat), Fr h₀ L h' m → News h₀ L h' news → Q (R t) { s with heap := h', toks := tk' }
theorem allLt_ne {d : Nat} : ∀ {l : List (Addr × Obj)}, AllLt d l → ∀ p ∈ l, p.1 ≠ d
  | [], _, _, hp => nomatch hp
  | q :: r, h, p, hp => by
    cases hp with
    | head => exact Nat.ne_of_lt h.1
    | tail _ hp => exact allLt_ne h.2 p hp
noncomputable abbrev tup3 (a : Int) (ta : Tok) (k : Int) (tk : Tok) (p : Int) (tp : Tok) (n : Nat) : Obj := { cls := .type "tuple", data := .seq #[.int a ta, .int k tk, .int p tp] n }
theorem gen_post {prog : Program} {w : World} {A : Around} {E : Value → Shared → Prop} {s : Shared} {α : Type} {a : Sem α} {b : Sem Flow} {P : Flow → Shared → Prop}
    (h : ∀ P' : Flow → Shared → Prop, (∀ f s', P f s' → P' f s') → wpAny (model prog w) A a (fun _ s₂ => wpAny (model prog w) A b P' E s₂) E s) : wpAny (model prog w) A a (fun _ s₂ => wpAny (model prog w) A b P E s₂) E s := h P fun _ _ x => x
theorem gen_post1 {prog : Program} {w : World} {A : Around} {E : Value → Shared → Prop} {s : Shared} {α : Type} {a : Sem α} {P : α → Shared → Prop}
    (h : ∀ P' : α → Shared → Prop, (∀ f s', P f s' → P' f s') → wpAny (model prog w) A a P' E s) : wpAny (model prog w) A a P E s := h P fun _ _ x => x
theorem drink {α : Type} (x : Nonempty α) (B : α → Prop) : ∃ v, B v → ∀ v, B v := by
  by_cases h : ∀ v, B v
  · exact x.elim fun x => ⟨x, fun _ => h⟩
  · obtain ⟨v, hv⟩ := Classical.not_forall.mp h
    exact ⟨v, fun hb => absurd hb hv⟩
theorem neWorld : Nonempty World := ⟨⟨fun _ _ => 0, { strHash := fun _ => 0, shareClass := fun _ => 0, mergeTok := fun _ => 0, idOf := fun _ => 0, idOfShared := fun _ _ => 0, followText := fun _ => false, idOfImm := fun _ => 0 }⟩⟩
theorem cut_qe {prog : Program} {w : World} {A : Around} {body : List Stmt} {env : Env} {Q : Flow → Shared → Prop} {E : Value → Shared → Prop} {s : Shared} (hE : PassesOwn (model prog w) A env E)
    (h : ∀ (qk : Flow → Shared → Prop) (ek : Value → Shared → Prop), (∀ fl s', Q fl s' → qk fl s') → PassesOwn (model prog w) A env ek → wpAny (model prog w) A (execs body env) qk ek s) : wpAny (model prog w) A (execs body env) Q E s :=
  h Q E (fun _ _ h => h) hE
end Mine
end

open Mine
local macro_rules | `(tactic| k_all) => `(tactic| first | assumption | exact Mine.allLt_ne (by assumption))
local macro_rules | `(tactic| k_room) => `(tactic| exact Nat.le_of_ble_eq_true rfl)
section
open PySem PySem.W PyProof.Rows
set_option Elab.async false
namespace Mine
noncomputable abbrev S (l : List Nat) : Str := ⟨l.toArray⟩
noncomputable abbrev lk (l : List (Str × Value)) : Str → Option Value := fun y => List.lookup y l
theorem feq (names : List Str) {m1 m2 : Str → Option Value} (h : ∀ k ∈ names, m1 k = m2 k) (ho : ∀ y, (∀ k ∈ names, y ≠ k) → m1 y = m2 y) : m1 = m2 := by
  funext y
  by_cases hy : ∃ k ∈ names, y = k
  · obtain ⟨k, hk, rfl⟩ := hy
    exact h _ hk
  · exact ho y fun k hk e => hy ⟨k, hk, e⟩
noncomputable abbrev lkj (junk : List Str) (u : Str → Option Value) (l : List (Str × Value)) : Str → Option Value := fun y => if junk.contains y then u y else List.lookup y l
theorem feqj (junk names : List Str) {m : Str → Option Value} {l : List (Str × Value)} (h : ∀ k ∈ names, m k = List.lookup k l) (hj : ∀ k ∈ names, junk.contains k = false)
    (ho : ∀ y, (∀ k ∈ names, y ≠ k) → junk.contains y = false → m y = List.lookup y l) : m = lkj junk m l := by
  funext y
  unfold lkj
  cases hc : junk.contains y with
  | true => simp
  | false =>
    simp only [Bool.false_eq_true, if_false]
    by_cases hy : ∃ k ∈ names, y = k
    · obtain ⟨k, hk, rfl⟩ := hy
      exact h _ hk
    · exact ho y (fun k hk e => hy ⟨k, hk, e⟩) hc
theorem small2 : ∀ n : Nat, n < 41 → Builtin.Range.small 2 (2 * ((n : Int) + 1)) 2 = true ∧ Builtin.Range.rangeSize 2 (2 * ((n : Int) + 1)) 2 = (n : Int) := by decide
theorem S_len (l : List Nat) : (S l).length = l.length := by simp [S, Str.length]
theorem S_inj {a b : List Nat} : S a = S b ↔ a = b := by
  constructor
  · intro h
    have := congrArg (fun x : Str => x.cps.toList) h
    simpa using this
  · rintro rfl; rfl
theorem S_beq {a b : List Nat} : (S a == S b) = decide (a = b) := by
  by_cases h : a = b
  · subst h; simp
  · have : S a ≠ S b := fun e => h (S_inj.mp e)
    rw [decide_eq_false h]; exact beq_eq_false_iff_ne.mpr this
noncomputable def pfx : List Nat → List Nat → List Nat × List Nat
  | x :: xs, y :: ys => if x = y then pfx xs ys else (x :: xs, y :: ys)
  | xs, ys => (xs, ys)
noncomputable def sfx (a b : List Nat) : List Nat × List Nat := ((pfx a.reverse b.reverse).1.reverse, (pfx a.reverse b.reverse).2.reverse)
theorem slice_nn (l : List Nat) : Txt.slice (S l) none none = S l := by
  have e : Txt.slice (S l) none none = StrLaws.sliceText (S l) (some ((0 : Nat) : Int)) (some ((S l).length : Int)) := by
    show StrLaws.sliceText (S l) none none = _
    unfold StrLaws.sliceText
    rw [StrLaws.sliceIdx_none_lo, StrLaws.sliceIdx_none_hi]
    rfl
  rw [e, StrLaws.sliceText_nat _ (Nat.zero_le _) (Nat.le_refl _)]
  simp [S_len]
theorem slice_from {l : List Nat} {k : Nat} (h : k ≤ l.length) : Txt.slice (S l) (some (k : Int)) none = S (l.drop k) := by
  have e : Txt.slice (S l) (some (k : Int)) none = StrLaws.sliceText (S l) (some (k : Int)) (some ((S l).length : Int)) := by
    show StrLaws.sliceText (S l) _ none = _
    unfold StrLaws.sliceText
    rw [StrLaws.sliceIdx_none_hi]
  rw [e, StrLaws.sliceText_nat _ (by rw [S_len]; exact h) (Nat.le_refl _)]
  simp [S_len, List.take_of_length_le]
theorem slice_neg {l : List Nat} {j : Nat} (h0 : 0 < j) (h : j ≤ l.length) : Txt.slice (S l) none (some (-(j : Int))) = S (l.take (l.length - j)) := by
  have e : Txt.slice (S l) none (some (-(j : Int))) = StrLaws.sliceText (S l) (some ((0 : Nat) : Int)) (some ((l.length - j : Nat) : Int)) := by
    show StrLaws.sliceText (S l) none _ = _
    unfold StrLaws.sliceText
    have q : Builtin.Str.strSliceIndices none (some (-(j : Int))) 1 (S l).length = Builtin.Str.strSliceIndices (some ((0 : Nat) : Int)) (some ((l.length - j : Nat) : Int)) 1 (S l).length := by
      rw [StrLaws.sliceIdx_none_lo, S_len]
      unfold Builtin.Str.strSliceIndices
      have a1 : (-(j : Int)) < 0 := by lia
      have a2 : ¬ (((l.length - j : Nat) : Int)) < 0 := by lia
      simp only [a1, a2, if_true, if_false]
      have a3 : -(j : Int) + (l.length : Int) = ((l.length - j : Nat) : Int) := by lia
      rw [a3]; rfl
    rw [q]
  rw [e, StrLaws.sliceText_nat _ (Nat.zero_le _) (by rw [S_len]; lia)]
  simp
theorem item_at {l : List Nat} {k : Nat} (h : k < l.length) : Txt.item (S l) (k : Int) = S [l[k]] := by
  have h2 : (k : Int) < ((S l).length : Nat) := by rw [S_len]; lia
  have hj : seqIndex? (k : Int) (S l).length = some k := by rw [StrLaws.seqIndex_nonneg (by lia) h2]; rfl
  have hc : Txt.charAt (S l) (k : Int) = some (l[k]) := by
    unfold Txt.charAt; rw [hj]; simp [S, h]
  unfold Txt.item; rw [hc]; rfl
theorem item_neg {l : List Nat} {j : Nat} (h : j < l.length) : Txt.item (S l) (-(j : Int) - 1) = S [l[l.length - 1 - j]] := by
  have hj : seqIndex? (-(j : Int) - 1) (S l).length = some (l.length - 1 - j) := by
    rw [StrLaws.seqIndex_neg (by lia) (by rw [S_len]; lia), S_len]; congr 1; lia
  have hlt : l.length - 1 - j < l.length := by lia
  have hc : Txt.charAt (S l) (-(j : Int) - 1) = some (l[l.length - 1 - j]) := by
    unfold Txt.charAt; rw [hj]; simp [S, hlt]
  unfold Txt.item; rw [hc]; rfl
theorem pfx_step {a b : List Nat} {k : Nat} (h1 : k < a.length) (h2 : k < b.length) (e : a[k] = b[k]) : pfx (a.drop k) (b.drop k) = pfx (a.drop (k + 1)) (b.drop (k + 1)) := by
  rw [List.drop_eq_getElem_cons h1, List.drop_eq_getElem_cons h2, pfx, if_pos e]
theorem pfx_stop {a b : List Nat} {k : Nat} (h1 : k < a.length) (h2 : k < b.length) (e : a[k] ≠ b[k]) : pfx (a.drop k) (b.drop k) = (a.drop k, b.drop k) := by
  rw [List.drop_eq_getElem_cons h1, List.drop_eq_getElem_cons h2, pfx, if_neg e]
theorem pfx_nil_l (b : List Nat) : pfx [] b = ([], b) := by unfold pfx; rfl
theorem pfx_nil_r (a : List Nat) : pfx a [] = (a, []) := by cases a <;> rfl
theorem pfx_out_l {a b : List Nat} {k : Nat} (h : a.length ≤ k) : pfx (a.drop k) (b.drop k) = (a.drop k, b.drop k) := by
  rw [List.drop_eq_nil_of_le h, pfx_nil_l]
theorem pfx_out_r {a b : List Nat} {k : Nat} (h : b.length ≤ k) : pfx (a.drop k) (b.drop k) = (a.drop k, b.drop k) := by
  rw [List.drop_eq_nil_of_le h, pfx_nil_r]
theorem rev_drop (l : List Nat) (j : Nat) : l.reverse.drop j = (l.take (l.length - j)).reverse := by
  rw [List.drop_reverse]
theorem sfx_start (a b : List Nat) : sfx (a.take (a.length - 0)) (b.take (b.length - 0)) = sfx a b := by simp
theorem take_get {l : List Nat} {j : Nat} (h : j < l.length) : l.reverse[j]'(by simpa using h) = l[l.length - 1 - j] := by
  rw [List.getElem_reverse]
theorem sfx_eq (a b : List Nat) (j : Nat) : sfx (a.take (a.length - j)) (b.take (b.length - j)) = ((pfx (a.reverse.drop j) (b.reverse.drop j)).1.reverse, (pfx (a.reverse.drop j) (b.reverse.drop j)).2.reverse) := by
  unfold sfx; rw [rev_drop, rev_drop]
theorem sfx_step {a b : List Nat} {j : Nat} (h1 : j < a.length) (h2 : j < b.length) (e : a[a.length - 1 - j] = b[b.length - 1 - j]) :
    sfx (a.take (a.length - j)) (b.take (b.length - j)) = sfx (a.take (a.length - (j + 1))) (b.take (b.length - (j + 1))) := by
  rw [sfx_eq, sfx_eq, pfx_step (by simpa using h1) (by simpa using h2) (by rw [take_get h1, take_get h2]; exact e)]
theorem sfx_stop {a b : List Nat} {j : Nat} (h1 : j < a.length) (h2 : j < b.length) (e : a[a.length - 1 - j] ≠ b[b.length - 1 - j]) :
    sfx (a.take (a.length - j)) (b.take (b.length - j)) = (a.take (a.length - j), b.take (b.length - j)) := by
  rw [sfx_eq, pfx_stop (by simpa using h1) (by simpa using h2) (by rw [take_get h1, take_get h2]; exact e), rev_drop, rev_drop]; simp
theorem sfx_out_l {a b : List Nat} {j : Nat} (h : a.length ≤ j) : sfx (a.take (a.length - j)) (b.take (b.length - j)) = (a.take (a.length - j), b.take (b.length - j)) := by
  rw [sfx_eq, pfx_out_l (by simpa using h), rev_drop, rev_drop]; simp
theorem sfx_out_r {a b : List Nat} {j : Nat} (h : b.length ≤ j) : sfx (a.take (a.length - j)) (b.take (b.length - j)) = (a.take (a.length - j), b.take (b.length - j)) := by
  rw [sfx_eq, pfx_out_r (by simpa using h), rev_drop, rev_drop]; simp
theorem slen_from {l : List Nat} {k : Nat} (h : k ≤ l.length) : (Txt.slice (S l) (some (k : Int)) none).length = l.length - k := by
  rw [slice_from h, S_len]; simp
theorem pex1 {a b : List Nat} {k : Nat} (hk : k ≤ a.length) (h : ((Txt.slice (S a) (some (k : Int)) none).length : Int) = 0) : pfx (a.drop k) (b.drop k) = (a.drop k, b.drop k) := by
  rw [slen_from hk] at h; exact pfx_out_l (by lia)
theorem pex2 {a b : List Nat} {k : Nat} (hk : k ≤ b.length) (h : ((Txt.slice (S b) (some (k : Int)) none).length : Int) = 0) : pfx (a.drop k) (b.drop k) = (a.drop k, b.drop k) := by
  rw [slen_from hk] at h; exact pfx_out_r (by lia)
theorem pgo_lt {a : List Nat} {k : Nat} (hk : k ≤ a.length) (h : ((Txt.slice (S a) (some (k : Int)) none).length : Int) ≠ 0) : k < a.length := by
  rw [slen_from hk] at h; lia
theorem pex3 {a b : List Nat} {k : Nat} (hk1 : k ≤ a.length) (hk2 : k ≤ b.length) (h1 : ((Txt.slice (S a) (some (k : Int)) none).length : Int) ≠ 0) (h2 : ((Txt.slice (S b) (some (k : Int)) none).length : Int) ≠ 0)
    (h : (Txt.item (S a) (k : Int) == Txt.item (S b) (k : Int)) = false) : pfx (a.drop k) (b.drop k) = (a.drop k, b.drop k) := by
  have l1 := pgo_lt hk1 h1; have l2 := pgo_lt hk2 h2
  rw [item_at l1, item_at l2, S_beq] at h
  exact pfx_stop l1 l2 (by simpa using h)
theorem pgo {a b : List Nat} {k : Nat} (hk1 : k ≤ a.length) (hk2 : k ≤ b.length) (h1 : ((Txt.slice (S a) (some (k : Int)) none).length : Int) ≠ 0) (h2 : ((Txt.slice (S b) (some (k : Int)) none).length : Int) ≠ 0)
    (h : (Txt.item (S a) (k : Int) == Txt.item (S b) (k : Int)) = true) : k < a.length ∧ k < b.length ∧ pfx (a.drop k) (b.drop k) = pfx (a.drop (k + 1)) (b.drop (k + 1)) := by
  have l1 := pgo_lt hk1 h1; have l2 := pgo_lt hk2 h2
  rw [item_at l1, item_at l2, S_beq] at h
  exact ⟨l1, l2, pfx_step l1 l2 (by simpa using h)⟩
theorem slen_neg {l : List Nat} {j : Nat} (h0 : 0 < j) (h : j ≤ l.length) : (Txt.slice (S l) none (some (-(j : Int)))).length = l.length - j := by
  rw [slice_neg h0 h, S_len, List.length_take]; lia
theorem slen_nn (l : List Nat) : (Txt.slice (S l) none none).length = l.length := by rw [slice_nn, S_len]
theorem sx_ne {a b : List Nat} {j : Nat} (h1 : j < a.length) (h2 : j < b.length) (h : (Txt.item (S a) (-(j : Int) - 1) == Txt.item (S b) (-(j : Int) - 1)) = false) : a[a.length - 1 - j] ≠ b[b.length - 1 - j] := by
  rw [item_neg h1, item_neg h2, S_beq] at h; simpa using h
theorem sx_eq {a b : List Nat} {j : Nat} (h1 : j < a.length) (h2 : j < b.length) (h : (Txt.item (S a) (-(j : Int) - 1) == Txt.item (S b) (-(j : Int) - 1)) = true) : a[a.length - 1 - j] = b[b.length - 1 - j] := by
  rw [item_neg h1, item_neg h2, S_beq] at h; simpa using h
noncomputable def scost (c d : Nat) : Int := if c = d then 0 else if lo1 c = lo1 d then 1 else 2
noncomputable def istep (bc : Nat) (a : List Nat) (st : List Int × Int × Int × Int) (i : Nat) : List Int × Int × Int × Int :=
  let d' := st.1.getD i 0
  let ins := (if d' < st.2.2.1 then d' else st.2.2.1) + 2
  let sub := st.2.1 + scost bc (a.getD i 0)
  let r' := if sub < ins then sub else ins
  (st.1.set i r', d', r', if r' < st.2.2.2 then r' else st.2.2.2)
noncomputable def inner (bc : Nat) (a : List Nat) (row : List Int) (d : Int) : List Int × Int × Int × Int :=
  (List.range a.length).foldl (istep bc a) (row, d, d, 9223372036854775807)
noncomputable def outer (a b : List Nat) (mc : Int) : Nat → Nat → List Int → Int → Int
  | 0, _, _, res => res
  | f + 1, j, row, _ =>
    let r := inner (b.getD j 0) a row ((j : Int) * 2)
    if r.2.2.2 > mc then mc + 1 else outer a b mc f (j + 1) r.1 r.2.2.1
noncomputable def dp (a b : List Nat) (mc : Int) : Int :=
  if ((b.length : Int) - a.length) * 2 > mc then mc + 1 else outer a b mc b.length 0 ((List.range a.length).map fun (i : Nat) => 2 + 2 * (i : Int)) 0
noncomputable def levC (a b : List Nat) (mc : Int) : Int :=
  if a = [] ∨ b = [] then 2 * ((a.length : Int) + b.length) else
  if b.length < a.length then dp b a mc else dp a b mc
noncomputable def stAt (bc : Nat) (a : List Nat) (row : List Int) (d : Int) (k : Nat) : List Int × Int × Int × Int :=
  (List.range k).foldl (istep bc a) (row, d, d, 9223372036854775807)
theorem stAt_succ (bc : Nat) (a : List Nat) (row : List Int) (d : Int) (k : Nat) : stAt bc a row d (k + 1) = istep bc a (stAt bc a row d k) k := by
  unfold stAt; rw [List.range_succ, List.foldl_append]; rfl
theorem stAt_len (bc : Nat) (a : List Nat) (row : List Int) (d : Int) : ∀ k, (stAt bc a row d k).1.length = row.length
  | 0 => rfl
  | k + 1 => by rw [stAt_succ]; unfold istep; simp only [List.length_set]; exact stAt_len bc a row d k
theorem inner_eq (bc : Nat) (a : List Nat) (row : List Int) (d : Int) : inner bc a row d = stAt bc a row d a.length := rfl
theorem ia_cast {vs : List Value} {l l' : List Int} (h : IntsAre vs l) (e : l = l') : IntsAre vs l' := e ▸ h
theorem news_mid {h₀ h : Heap} {L : Addr} {p : Addr × Obj} {news own : List (Addr × Obj)} (N : News h₀ L h (p :: (news ++ own))) : News h₀ L h news := fun q hq => N q (List.Mem.tail _ (List.mem_append_left _ hq))
theorem outer_step {x y : List Nat} {mc : Int} {i : Nat} {row : List Int} {res : Int} (hi : i < y.length) :
    outer x y mc (y.length - i) i row res = if (inner y[i] x row ((i : Int) * 2)).2.2.2 > mc then mc + 1 else outer x y mc (y.length - (i + 1)) (i + 1) (inner y[i] x row ((i : Int) * 2)).1 (inner y[i] x row ((i : Int) * 2)).2.2.1 := by
  have e : y.length - i = (y.length - (i + 1)) + 1 := by lia
  rw [e, outer, show y.getD i 0 = y[i] from by simp [List.getD, hi]]
theorem outer_hi {x y : List Nat} {mc : Int} {i : Nat} {row : List Int} {res : Int} (hi : i < y.length) (h : mc < (inner y[i] x row ((i : Int) * 2)).2.2.2) :
    mc + 1 = outer x y mc (y.length - i) i row res := by
  rw [outer_step hi, if_pos h]
theorem outer_lo {x y : List Nat} {mc : Int} {i : Nat} {row : List Int} {res : Int} (hi : i < y.length) (h : ¬ mc < (inner y[i] x row ((i : Int) * 2)).2.2.2) :
    outer x y mc (y.length - (i + 1)) (i + 1) (inner y[i] x row ((i : Int) * 2)).1 (inner y[i] x row ((i : Int) * 2)).2.2.1 = outer x y mc (y.length - i) i row res := by
  rw [outer_step hi, if_neg h]
theorem dp_over {x y : List Nat} {mc : Int} (h : mc < (((S y).length : Int) - ((S x).length : Int)) * 2) : mc + 1 = dp x y mc := by
  rw [S_len, S_len] at h; rw [dp, if_pos (by lia)]
noncomputable def row0 (x : List Nat) : List Int := (List.range x.length).map fun (i : Nat) => 2 + 2 * (i : Int)
theorem dp_under {x y : List Nat} {mc : Int} (h : ¬ mc < (((S y).length : Int) - ((S x).length : Int)) * 2) : dp x y mc = outer x y mc y.length 0 (row0 x) 0 := by
  rw [S_len, S_len] at h; rw [dp, if_neg (by lia)]; rfl
theorem row0_range (x : List Nat) : rangeInts 2 2 (S x).length = row0 x := by
  rw [S_len]; unfold rangeInts row0
  refine List.map_congr_left fun i _ => ?_
  lia
theorem levC_nil {a b : List Nat} {mc : Int} (h : a.length = 0 ∨ b.length = 0) : 2 * (((S a).length : Int) + ((S b).length : Int)) = levC a b mc := by
  rw [S_len, S_len, levC, if_pos (by simpa [List.length_eq_zero_iff] using h)]
theorem levC_cons {a b : List Nat} {mc : Int} (h1 : a.length ≠ 0) (h2 : b.length ≠ 0) : levC a b mc = if b.length < a.length then dp b a mc else dp a b mc := by
  rw [levC, if_neg (by simp only [← List.length_eq_zero_iff]; lia)]
noncomputable def levB (a b : List Nat) (mc : Int) : Int := levC (sfx a b).1 (sfx a b).2 mc
noncomputable def lev (a b : List Nat) (mc : Int) : Int := if a = b then 0 else levB (pfx a b).1 (pfx a b).2 mc
/-- _law_prices -/
theorem sub_app (xs l r : List (Addr × Obj)) : ∀ p ∈ xs ++ l, p ∈ xs ++ (l ++ r) := fun p hp => by
  rcases List.mem_append.mp hp with h | h
  · exact List.mem_append_left _ h
  · exact List.mem_append_right _ (List.mem_append_left _ h)
theorem sub_app2 (xs l r : List (Addr × Obj)) : ∀ p ∈ r, p ∈ xs ++ (l ++ r) := fun _ hp => List.mem_append_right _ (List.mem_append_right _ hp)
theorem lt_its {I a : Addr} {o1 o2 : Obj} (h : a < I) : ∀ q ∈ [(I + 1, o1), (I, o2)], a ≠ q.1 := fun q hq => by
  rcases List.mem_cons.mp hq with rfl | hq
  · exact Nat.ne_of_lt (Nat.lt_succ_of_lt h)
  · rw [List.mem_singleton.mp hq]; exact Nat.ne_of_lt h
noncomputable def min3 (a b c : Int) : Int := if b < a then (if c < b then c else b) else (if c < a then c else a)
noncomputable def prow0 (n : Nat) : List Int := (List.range (n + 1)).map fun (j : Nat) => 2 * (j : Int)
theorem ia_snoc {vs : List Value} {ns : List Int} {n : Int} {t : Tok} (h : IntsAre vs ns) : IntsAre (vs ++ [.int n t]) (ns ++ [n]) := by
  induction h with
  | nil => exact .cons _ _ .nil
  | cons a b _ ih => exact .cons _ _ ih
theorem ia_range {vs : List Value} {f : Nat → Int} {i : Nat} {t : Tok} (h : IntsAre vs ((List.range i).map f)) : IntsAre (vs ++ [.int (f i) t]) ((List.range (i + 1)).map f) := by
  rw [List.range_succ, List.map_append]; exact ia_snoc h
theorem off1_mem {D : Addr} : ∀ {l : List (Addr × Obj)}, LCg.Off1 D l → ∀ p ∈ l, p.1 ≠ D
  | [], _, _, h => nomatch h
  | q :: r, x, p, h => by
    rcases List.mem_cons.mp h with rfl | h
    · exact x.1
    · exact off1_mem x.2 p h
theorem allLt_mem {d : Addr} : ∀ {l : List (Addr × Obj)}, AllLt d l → ∀ p ∈ l, p.1 < d
  | [], _, _, h => nomatch h
  | q :: r, x, p, h => by
    rcases List.mem_cons.mp h with rfl | h
    · exact x.1
    · exact allLt_mem x.2 p h
noncomputable def pc (x y : Int) : Int := if x = y then 0 else if Int.fdiv x 2 = Int.fdiv y 2 then 1 else 2
noncomputable def lastD (l : List Int) : Int := l.getD (-1 + (l.length : Int)).toNat 0
noncomputable def pin (x : Int) (ln row u : List Int) (j : Nat) : List Int := u ++ [min3 (row.getD j 0 + pc x (ln.getD j 0)) (row.getD (j + 1) 0 + 2) (u.getD j 0 + 2)]
noncomputable def pinAt (x : Int) (ln row : List Int) (k : Nat) : List Int := (List.range k).foldl (pin x ln row) [row.getD 0 0 + 2]
theorem pinAt_succ (x : Int) (ln row : List Int) (k : Nat) : pinAt x ln row (k + 1) = pin x ln row (pinAt x ln row k) k := by
  unfold pinAt; rw [List.range_succ, List.foldl_append]; rfl
theorem pinAt_len (x : Int) (ln row : List Int) : ∀ k, (pinAt x ln row k).length = k + 1
  | 0 => rfl
  | k + 1 => by rw [pinAt_succ]; unfold pin; rw [List.length_append, pinAt_len x ln row k]; rfl
noncomputable def pst (ln : List Int) (st : List Int × List Int) (x : Int) : List Int × List Int := (pinAt x ln st.1 ln.length, st.2 ++ [lastD (pinAt x ln st.1 ln.length)])
noncomputable def pst0 (ln : List Int) : List Int × List Int := (prow0 ln.length, [lastD (prow0 ln.length)])
noncomputable def prices (sn ln : List Int) : List Int := (sn.foldl (pst ln) (pst0 ln)).2
noncomputable def pstAt (sn ln : List Int) (i : Nat) : List Int × List Int := (sn.take i).foldl (pst ln) (pst0 ln)
theorem pstAt_succ {sn ln : List Int} {i : Nat} {x : Int} (h : sn[i]? = some x) : pstAt sn ln (i + 1) = pst ln (pstAt sn ln i) x := by
  unfold pstAt; rw [List.take_add_one, h]; simp
theorem pstAt_len (sn ln : List Int) : ∀ i, (pstAt sn ln i).1.length = ln.length + 1 := by
  intro i
  unfold pstAt
  generalize sn.take i = l
  have : ∀ (l : List Int) (st : List Int × List Int), st.1.length = ln.length + 1 → (l.foldl (pst ln) st).1.length = ln.length + 1 := by
    intro l
    induction l with
    | nil => exact fun _ h => h
    | cons a r ih => intro st _; exact ih _ (pinAt_len _ _ _ _)
  exact this l _ (by simp [pst0, prow0])
theorem pstAt_len2 (sn ln : List Int) : ∀ i, i ≤ sn.length → (pstAt sn ln i).2.length = i + 1
  | 0, _ => by simp [pstAt, pst0]
  | i + 1, h => by
    have hk : sn[i]? = some sn[i] := List.getElem?_eq_getElem h
    rw [pstAt_succ hk, pst]
    simp only [List.length_append, pstAt_len2 sn ln i (by lia)]
    rfl
noncomputable def codeOf (x : Int) : Nat := [97, 65, 98, 66].getD x.toNat 0
noncomputable def spell (l : List Int) : List Nat := l.map codeOf
theorem sa_snoc {vs : List Value} {ns : List Str} {n : Str} {t : Tok} (h : StrsAre vs ns) : StrsAre (vs ++ [.str n t]) (ns ++ [n]) := by
  induction h with
  | nil => exact .cons _ _ .nil
  | cons a b _ ih => exact .cons _ _ ih
theorem letters_S : Str.ofString "aAbB" = S [97, 65, 98, 66] := by decide +kernel
theorem item_letters {x : Int} (h : 0 ≤ x ∧ x < 4) : Txt.item (Str.ofString "aAbB") x = S [codeOf x] := by
  obtain ⟨k, rfl⟩ := Int.eq_ofNat_of_zero_le h.1
  have hk : k < 4 := by lia
  rw [letters_S, item_at (by simpa using hk)]
  unfold codeOf
  simp [List.getD, hk]
theorem join_S : ∀ l : List Int, Str.join (Str.ofString "") (l.map fun x => S [codeOf x]) = S (spell l) := by
  intro l
  have e : Str.ofString "" = (⟨#[]⟩ : Str) := by decide +kernel
  rw [e]
  induction l with
  | nil => rfl
  | cons a r ih =>
    cases r with
    | nil => rfl
    | cons b r =>
      rw [List.map_cons, List.map_cons]
      show S [codeOf a] ++ ⟨#[]⟩ ++ Str.join ⟨#[]⟩ ((b :: r).map fun x => S [codeOf x]) = _
      rw [ih]
      apply PySem.Str.ext'
      simp [S, spell, PySem.Str.cps_append]
theorem Txt_join (l : List Int) : Txt.join (Str.ofString "") (l.map fun x => S [codeOf x]) = S (spell l) := (StrLaws.glued_eq_join _ _).trans (join_S l)
theorem len_ones (l : List Int) : ((l.map fun x => S [codeOf x]).map (·.length)).sum = l.length := by
  induction l with
  | nil => rfl
  | cons a r ih =>
    rw [List.map_cons, List.map_cons, List.sum_cons, ih, List.length_cons]
    show 1 + r.length = _
    lia
theorem sa_cast {vs : List Value} {l l' : List Str} (h : StrsAre vs l) (e : l = l') : StrsAre vs l' := e ▸ h
theorem jlt {n j l : Nat} (hf : l = n - j) (h : ((l : Nat) : Int) ≠ 0) : j < n := by lia
theorem jl0 {n l : Nat} (hf : l = n) (h : ((l : Nat) : Int) ≠ 0) : 0 < n := by lia
theorem jge {n j l : Nat} (hf : l = n - j) (h : ((l : Nat) : Int) = 0) : n ≤ j := by lia
theorem jge0 {n l : Nat} (hf : l = n) (h : ((l : Nat) : Int) = 0) : n ≤ 0 := by lia
end Mine
end

section
open PySem PySem.W PyProof.Rows
set_option Elab.async false
set_option maxRecDepth 100000
set_option maxHeartbeats 8000000
namespace Mine
section
variable {prog : Program} {w : World} {A : Around} {E : Value → Shared → Prop} {s : Shared} {env : Env} {h₀ : Heap} {x : Str} {body : List Stmt} {Q : Flow → Shared → Prop}
theorem range_inv {r : Addr} {a₀ b₀ : Int} {t₀ u₀ v₀ : Tok} {n : Nat} {m₀ : Str → Option Value} {news : List (Addr × Obj)} (J : Nat → (Str → Option Value) → List (Addr × Obj) → Prop)
    (hh : A.handled = none) (hr : IsRange s.heap r a₀ b₀ 1 t₀ u₀ v₀) (hsmall : Builtin.Range.small a₀ b₀ 1 = true) (hn : Builtin.Range.rangeSize a₀ b₀ 1 = (n : Int)) (F : Fr h₀ env.locals s.heap m₀) (N : News h₀ env.locals s.heap news) (hj : J 0 m₀ news)
    (turn : ∀ (i : Nat) t m₁ news₁ h tk own, i < n → news₁.map (·.1) = news.map (·.1) → OwnOff own (news.map (·.1)) → J i m₁ news₁ →
      Fr h₀ env.locals h (fun y => if y = x then some (.int (a₀ + (i : Int)) t) else m₁ y) → News h₀ env.locals h (news₁ ++ own) →
      wpAny (model prog w) A (execs body env) (InvPostN h₀ env.locals (J (i + 1)) own (news.map (·.1)) { s with heap := h, toks := tk } Q) E { s with heap := h, toks := tk })
    (done : ∀ m₁ news₁ h tk, J n m₁ news₁ → Fr h₀ env.locals h m₁ → News h₀ env.locals h news₁ → Q .next { s with heap := h, toks := tk }) :
    wpAny (model prog w) A (pyIter (.ref r)) (fun it s₂ => LoopAtV prog w A h₀ env x body Q E it s₂) E s := by
  refine wpAny_pyIter_range hr hsmall ?_
  have W : Walks prog w A s.heap.objs.size [s.heap.objs.size] [s.heap.objs.size] n (fun i v => i < n ∧ ∃ t, v = .int (a₀ + i * 1) t)
      (fun i h => IsRangeIter h s.heap.objs.size (a₀ + (i : Nat) * 1) ((n : Int) - (i : Nat)) 1) := (Walks.range hh _ a₀ 1 n).bound
  refine loop_invN J W ?_ ?_ ?_ ?_ (by show IsRangeIter _ _ _ _ _; rw [hn]; simpa using Heap.get?_push_size _ rfl) (F.push _) (fun p hp => ⟨Heap.get?_push_of_some _ (N p hp).1, (N p hp).2⟩) hj ?_ ?_
  · intro hm
    exact absurd F.ns.lt ((List.mem_singleton.mp hm) ▸ Nat.lt_irrefl _)
  · intro b hb
    rw [List.mem_singleton.mp hb]
    exact next_is_new F
  · intro p hp hI
    exact absurd (Heap.lt_size (N p hp).1) ((List.mem_singleton.mp hI) ▸ Nat.lt_irrefl _)
  · intro p hp hI
    exact absurd (Heap.lt_size (N p hp).1) ((List.mem_singleton.mp hI) ▸ Nat.lt_irrefl _)
  · rintro i v m₁ nx h tk own hi ⟨_, t, rfl⟩ ha hoff hJ F₁ N₁
    have e1 : a₀ + (i : Int) * 1 = a₀ + (i : Int) := by omega
    rw [e1] at F₁
    exact turn i t m₁ nx h tk own hi ha hoff hJ F₁ N₁
  · exact done
theorem range_inv0 {r : Addr} {b₀ : Int} {t₀ u₀ v₀ : Tok} {n : Nat} {m₀ : Str → Option Value} {news : List (Addr × Obj)} (J : Nat → (Str → Option Value) → List (Addr × Obj) → Prop)
    (hh : A.handled = none) (hr : IsRange s.heap r 0 b₀ 1 t₀ u₀ v₀) (hn : b₀ = (n : Int)) (hlt : n < 2 ^ 20) (F : Fr h₀ env.locals s.heap m₀) (N : News h₀ env.locals s.heap news) (hj : J 0 m₀ news)
    (turn : ∀ (i : Nat) t m₁ news₁ h tk own, i < n → news₁.map (·.1) = news.map (·.1) → OwnOff own (news.map (·.1)) → J i m₁ news₁ →
      Fr h₀ env.locals h (fun y => if y = x then some (.int (i : Int) t) else m₁ y) → News h₀ env.locals h (news₁ ++ own) →
      wpAny (model prog w) A (execs body env) (InvPostN h₀ env.locals (J (i + 1)) own (news.map (·.1)) { s with heap := h, toks := tk } Q) E { s with heap := h, toks := tk })
    (done : ∀ m₁ news₁ h tk, J n m₁ news₁ → Fr h₀ env.locals h m₁ → News h₀ env.locals h news₁ → Q .next { s with heap := h, toks := tk }) :
    wpAny (model prog w) A (pyIter (.ref r)) (fun it s₂ => LoopAtV prog w A h₀ env x body Q E it s₂) E s := by
  subst hn
  refine range_inv J hh hr (small_one (by omega) (by omega) (by omega) (by omega)) (by rw [rangeSize_one]; split <;> omega) F N hj (fun i t m₁ news₁ h tk own hi ha ho hJ F N => ?_) done
  refine turn i t m₁ news₁ h tk own hi ha ho hJ ?_ N
  rw [show (0 : Int) + (i : Int) = (i : Int) from by omega] at F
  exact F
theorem list_rangeK {r : Addr} {a b c : Int} {t u v : Tok} {n : Nat} {L : Addr} {m : Str → Option Value} {news : List (Addr × Obj)} {Q : Value → Shared → Prop} (hh : A.handled = none) (F : Fr h₀ L s.heap m) (N : News h₀ L s.heap news)
    (hr : IsRange s.heap r a b c t u v) (hsmall : Builtin.Range.small a b c = true) (hn : Builtin.Range.rangeSize a b c = (n : Int)) (hlen : n ≤ 2 ^ 24)
    (hQ : ∀ l h' tk (ys : List Value) c', Fr h₀ L h' m → News h₀ L h' ((l, listOf ys.toArray c') :: news) → (∀ p ∈ news, p.1 < l) → IntsAre ys (rangeInts a c n) → Q (.ref l) { s with heap := h', toks := tk }) :
    wpAny (model prog w) A (call (.type "list") [.ref r]) Q E s := by
  refine call_list_range hh hr hsmall hn hlen fun h' tk acc' c' hk hS' hacc => ?_
  refine hQ s.heap.objs.size h' tk acc'.toList c' (F.keeps hk) (fun p hp => ?_) (fun p hp => Heap.lt_size (N p hp).1) ?_
  · rcases List.mem_cons.mp hp with rfl | hp
    · refine ⟨by simpa using hS', Nat.ne_of_gt F.ns.lt, ?_⟩
      exact F.fresh
    · exact ⟨hk _ _ (N p hp).1, (N p hp).2⟩
  · have key : ∀ (ys : List Value) (zs : List Int), ys.length = zs.length → (∀ j v, ys[j]? = some v → ∃ t, v = Value.int (zs.getD j 0) t) → IntsAre ys zs := by
      intro ys
      induction ys with
      | nil => intro zs hl _; cases zs with
        | nil => exact .nil
        | cons z r => simp at hl
      | cons y r ih => intro zs hl hg; cases zs with
        | nil => simp at hl
        | cons z q =>
          obtain ⟨t, rfl⟩ := hg 0 y rfl
          refine .cons _ _ (ih q (by simpa using hl) fun j v hv => ?_)
          obtain ⟨t', e⟩ := hg (j + 1) v (by simpa using hv)
          exact ⟨t', by simpa using e⟩
    refine key _ _ (by simp [hacc.1, rangeInts_length]) fun j v hv => ?_
    have hv' : acc'[j]? = some v := by simpa using hv
    obtain ⟨tk, rfl⟩ := hacc.2 j v hv'
    have hj : j < n := by
      have := (Array.getElem?_eq_some_iff.mp hv').1
      rw [hacc.1] at this; exact this
    refine ⟨tk, ?_⟩
    simp [List.getD, rangeInts_get hj]
theorem min3_call {a b c : Int} {t u x : Tok} {L : Addr} {m : Str → Option Value} {news : List (Addr × Obj)} {Q : Value → Shared → Prop} (hh : A.handled = none) (F : Fr h₀ L s.heap m) (N : News h₀ L s.heap news)
    (h : ∀ h' tk t', Fr h₀ L h' m → News h₀ L h' news → Q (.int (min3 a b c) t') { s with heap := h', toks := tk }) : wpAny (model prog w) A (call (.builtin "min") [.int a t, .int b u, .int c x]) Q E s := by
  refine min_three_ints hh fun h' tk hk => ?_
  have F' := F.keeps hk
  have N' : News h₀ L h' news := N.grown hk
  have q := fun t' => h h' tk t' F' N'
  unfold min3 at q
  by_cases h1 : b < a
  · by_cases h2 : c < b
    · simp only [h1, h2, if_true] at q ⊢; exact q x
    · simp only [h1, h2, if_true, if_false] at q ⊢; exact q u
  · by_cases h2 : c < a
    · simp only [h1, h2, if_true, if_false] at q ⊢; exact q x
    · simp only [h1, h2, if_false] at q ⊢; exact q t
noncomputable def MidQ (h₀ : Heap) (L : Addr) (s : Shared) (I : (Str → Option Value) → List (Addr × Obj) → Prop) (Q : Flow → Shared → Prop) : Flow → Shared → Prop := fun f s' =>
  match f with
  | .next => ∃ h tk m nx, s' = { s with heap := h, toks := tk } ∧ Fr h₀ L h m ∧ News h₀ L h nx ∧ I m nx
  | f => Q f s'
theorem mid {h₀ : Heap} {L : Addr} {t : Sem Flow} (I : (Str → Option Value) → List (Addr × Obj) → Prop) (h : wpAny (model prog w) A t (MidQ h₀ L s I Q) E s)
    (hc : ∀ h tk m nx, I m nx → Fr h₀ L h m → News h₀ L h nx → Q .next { s with heap := h, toks := tk }) : wpAny (model prog w) A t Q E s := by
  refine wpAny_mono h (fun f s' p => ?_) fun _ _ x => x
  cases f with
  | next => obtain ⟨h, tk, m, nx, rfl, F, N, i⟩ := p; exact hc h tk m nx i F N
  | ret v => exact p
  | brk => exact p
  | cont => exact p
theorem MidQ.out {h₀ h : Heap} {L : Addr} {m : Str → Option Value} {nx : List (Addr × Obj)} {I : (Str → Option Value) → List (Addr × Obj) → Prop} {tk : Nat} (F : Fr h₀ L h m) (N : News h₀ L h nx) (i : I m nx) : MidQ h₀ L s I Q .next { s with heap := h, toks := tk } := ⟨h, tk, m, nx, rfl, F, N, i⟩
noncomputable def Mid0 (h₀ : Heap) (L : Addr) (s : Shared) (I : (Str → Option Value) → List (Addr × Obj) → Prop) : Flow → Shared → Prop := fun f s' =>
  f = .next ∧ ∃ h tk m nx, s' = { s with heap := h, toks := tk } ∧ Fr h₀ L h m ∧ News h₀ L h nx ∧ I m nx
theorem mid0 {h₀ : Heap} {L : Addr} {t : Sem Flow} (I : (Str → Option Value) → List (Addr × Obj) → Prop) (h : wpAny (model prog w) A t (Mid0 h₀ L s I) E s)
    (hc : ∀ h tk m nx, I m nx → Fr h₀ L h m → News h₀ L h nx → Q .next { s with heap := h, toks := tk }) : wpAny (model prog w) A t Q E s := by
  refine wpAny_mono h (fun f s' p => ?_) fun _ _ x => x
  obtain ⟨rfl, h, tk, m, nx, rfl, F, N, i⟩ := p; exact hc h tk m nx i F N
theorem Mid0.out {h₀ h : Heap} {L : Addr} {m : Str → Option Value} {nx : List (Addr × Obj)} {I : (Str → Option Value) → List (Addr × Obj) → Prop} {tk : Nat} (F : Fr h₀ L h m) (N : News h₀ L h nx) (i : I m nx) : Mid0 h₀ L s I .next { s with heap := h, toks := tk } := ⟨rfl, h, tk, m, nx, rfl, F, N, i⟩
theorem Mid0.to {h₀ h : Heap} {L : Addr} {m : Str → Option Value} {nx : List (Addr × Obj)} {I : (Str → Option Value) → List (Addr × Obj) → Prop} {tk : Nat} {MP : Flow → Shared → Prop} (hMP : ∀ f s', Mid0 h₀ L s I f s' → MP f s') (F : Fr h₀ L h m) (N : News h₀ L h nx) (i : I m nx) : MP .next { s with heap := h, toks := tk } := hMP _ _ (Mid0.out F N i)
theorem step2 {h₀ h : Heap} {L : Addr} {m : Str → Option Value} {nx : List (Addr × Obj)} {J : Nat → (Str → Option Value) → List (Addr × Obj) → Prop} {tk n : Nat} (n' : Nat) (F : Fr h₀ L h m) (N : News h₀ L h nx) (hn : n' < n) (j : J n' m nx) : WhileStep2 h₀ L s J Q n .next { s with heap := h, toks := tk } := ⟨h, tk, m, nx, n', rfl, F, N, hn, j⟩
end
end Mine
end

section
theorem Mine.offS1 : True := by
  w_top off
  trivial
open PySem PySem.W PyProof.Rows
set_option Elab.async false
set_option maxRecDepth 100000
set_option maxHeartbeats 8000000
namespace Mine
noncomputable abbrev st1 (c : Nat) : Str := S [c]
theorem low1 (c : Nat) (h : c < 128) : Txt.lower (st1 c) = st1 (lo1 c) := by
  rw [lower_ascii (x := st1 c) (by intro d hd; simp at hd; omega)]; simp [st1]
theorem low1_len (c : Nat) (h : c < 128) : Builtin.Str.tooLong (Txt.lower (st1 c)).length = false := by
  rw [low1 c h]; rfl
theorem st1_eq {c d : Nat} : st1 c = st1 d ↔ c = d := by
  constructor
  · intro h; cases h; rfl
  · rintro rfl; rfl
theorem retI {h₀ h' : Heap} {L : Addr} {m : Str → Option Value} {news : List (Addr × Obj)} {s : Shared} {Q : Value → Shared → Prop} {t : Tok} {tk' : Nat} {x y : Int} (hret : ∀ (t : Tok) (h' : Heap) (tk' : Nat), Fr h₀ L h' m → News h₀ L h' news → Q (.int x t) { s with heap := h', toks := tk' }) (e : y = x) (F : Fr h₀ L h' m) (N : News h₀ L h' news) : Q (.int y t) { s with heap := h', toks := tk' } := by
  subst e
  exact hret t h' tk' F N
theorem scost_0 {c d : Nat} (h : (st1 c == st1 d) = true) : 0 = scost c d := by
  have := st1_eq.mp (eq_of_beq h)
  simp [scost, this]
theorem scost_1 {c d : Nat} (h : (st1 c == st1 d) = false) (h2 : (st1 (lo1 c) == st1 (lo1 d)) = true) : 1 = scost c d := by
  have := st1_eq.mp (eq_of_beq h2)
  have h1 : c ≠ d := by rintro rfl; simp at h
  simp [scost, this, h1]
theorem scost_2 {c d : Nat} (h : (st1 c == st1 d) = false) (h2 : (st1 (lo1 c) == st1 (lo1 d)) = false) : 2 = scost c d := by
  have h3 : lo1 c ≠ lo1 d := by intro e; simp [e] at h2
  have h1 : c ≠ d := by rintro rfl; simp at h
  simp [scost, h3, h1]
local macro_rules | `(tactic| walk_at "call builtin:str.lower") => `(tactic| ((with_reducible show wpAny _ _ (call (Value.builtin "str.lower") [Value.str _ _]) _ _ _); refine KXw.lower (low1 _ (by assumption)) (low1_len _ (by assumption)) ?_; intro _ _))
theorem subst_spc (w : World) (mean : ExcName → Option Value) (mg mb : Str → Option Value) (news : List (Addr × Obj)) (c d : Nat) (t1 t2 : Tok) (hc : c < 128) (hd : d < 128) :
    Spc w mean mg mb 74 1 news [.str (st1 c) t1, .str (st1 d) t2] (RetV news fun t => .int (scost c d) t) := by
  dsimp only [Spc, RetV]
  k_fill
  intros; rename_i hret
  refine wpAny_call ?_
  k_dflt (refine' code_def (binds := [(Str.ofString "ch_a", .str (st1 c) t1), (Str.ofString "ch_b", .str (st1 d) t2)]) ?k1 ?k2 ?k3 ?k4 ?k5 ?kA ?kF ?kK ?k6 ?k7 ?k8 ?k9 ?kB ?_ ?c2 ?c3 ?c4 ?c5; (case kA => exact rfl); (case kF => exact rfl); (case kK => assumption); (case k1 => k_asm); (case k2 => k_asm); (case k3 => k_asm); (case k4 => k_asm); (case k5 => k_asm); (case k6 => k_is); (case k7 => k_is); (case k8 => first | exact Nat.le_of_ble_eq_true rfl | ktr_room); (case k9 => exact BindsTo.of_eq rfl); (case c5 => decide); (case kB => exact locs rfl); (case c2 => exact rfl); (case c3 => exact rfl); (case c4 => exact rfl); k_whole; intro g' L' h' FG' F' N' B' X' T'; (try dsimp only); (try k_lift B'); (try k_fold))
  k_steps
  all_goals (first
    | exact retI hret (scost_0 (by assumption)) (by k_asm) (by k_asm)
    | exact retI hret (scost_1 (by assumption) (by assumption)) (by k_asm) (by k_asm)
    | exact retI hret (scost_2 (by assumption) (by assumption)) (by k_asm) (by k_asm)
    | w_report)
theorem subst_item (w : World) (mean : ExcName → Option Value) (mg mb : Str → Option Value) (news : List (Addr × Obj)) (c k : Nat) (x : List Nat) (t1 t2 : Tok) (hc : c < 128) (hx : ∀ c ∈ x, c < 128) (hk : k < x.length) :
    Spc w mean mg mb 74 1 news [.str (S [c]) t1, .str (Txt.item (S x) (k : Int)) t2] (RetV news fun t => .int (scost c (x.getD k 0)) t) := by
  rw [item_at hk, show x.getD k 0 = x[k] from by simp [List.getD, hk]]
  exact subst_spc w mean mg mb news c x[k] t1 t2 hc (hx _ (List.getElem_mem hk))
theorem spc_use {w : World} {mean : ExcName → Option Value} {mg mb : Str → Option Value} {f : Addr} {dd : Nat} {news : List (Addr × Obj)} {vs : List Value}
    {Ret : Heap → Addr → (Str → Option Value) → Shared → (Value → Shared → Prop) → Prop} (C : Spc w mean mg mb f dd news vs Ret)
    {dp un : Nat} {gd : Option (List Code)} {cn : Str} {cs : Scope} {a : Addr} {ccd : Value} {cl : List (Str × Addr)} {outer : List Env} {A₀ : Around} {base h₀ : Heap} {L : Addr} {m : Str → Option Value} {s : Shared} {Q E : Value → Shared → Prop}
    (B : Below A₀ base outer h₀) (F : Fr h₀ L s.heap m) (K : (Mine.hd.heap_39 w.params).In h₀) (N : News h₀ L s.heap news) (T : Top Mine.hd.view_39 [Str.ofString "bisect_right", Str.ofString "bisect_left"] mean mg mb h₀) (hk : cs.kind = .function)
    (hd : dp + dd < recursionLimit) (hu : un + 8 * dd < cLine) (hr : Ret h₀ L m s Q) :
    wpAny (model PySem.Challenge.rw_pg0216_01.row.prog w) (ktrTop dp un gd cn cs L a ccd cl outer) (call (.ref f) vs) Q E s :=
  C dp un gd cn cs a ccd cl outer A₀ base h₀ L m s Q E B F K N T hk hd hu hr
end Mine
end

local macro_rules | `(tactic| walk_at "zz") => `(tactic| fail "no such key")
local macro_rules | `(tactic| walk_at "zz") => `(tactic| fail "no such key")

section
theorem Mine.offS2 : True := by
  w_top off
  trivial
open PySem PySem.W PyProof.Rows
set_option Elab.async false
set_option maxRecDepth 100000
set_option maxHeartbeats 8000000
namespace Mine
local macro_rules | `(tactic| walk_at "subscriptTail Name Slice str ref") => `(tactic| ((with_reducible show wpAny _ _ (subscriptTail _ (Expr.Slice none (some _) none _) _ _) _ _ (Shared.mk (Heap.push _ (Obj.mk _ _ (Data.fields #[Value.none, Value.none, Value.none]) _)) _ _ _ _)); (with_reducible rename Fr _ _ _ _ => F'); (with_reducible rename News _ _ _ _ => N'); (refine slice_strN_nn_len (s := ⟨_, _, _, _, _⟩) F' N' ?_); intro _ _ _ _ _ _; clear F' N'))
set_option hygiene false in
local macro_rules | `(tactic| walk_at "call type:list") => `(tactic| ((with_reducible show wpAny _ _ (call (Value.type _) [Value.ref _]) _ _ _); (rename IsRange _ _ _ _ _ _ _ _ => R'); (rename Fr _ _ _ _ => F'); (rename News _ _ _ _ => N'); k_dflt (refine' list_rangeK rfl F' N' R' ?sm ?rs ?ln ?_; (case sm => exact (small2 _ (by omega)).1); (case rs => exact (small2 _ (by omega)).2); (case ln => omega)); clear R' F' N'; intro R h' tk ys c' F' N' lR iA))
noncomputable def lev_in : { PRED : World → (ExcName → Option Value) → (Str → Option Value) → (Str → Option Value) → (List (Addr × Obj)) → (List Nat) → (List Nat) → Int → Tok → Tok → Tok → Nat → Nat → (Option (List Code)) → Str → Scope → Addr → Value → (List (Str × Addr)) → (List Env) → Around → Heap → Heap → Addr → (Str → Option Value) → Shared → (Value → Shared → Prop) → (Value → Shared → Prop) → Heap → Addr → Heap → (Flow → Shared → Prop) → (Value → Shared → Prop) → Prop // (∀ (w : World) (mean : ExcName → Option Value) (mg : Str → Option Value) (mb : Str → Option Value) (news : List (Addr × Obj)) (a : List Nat) (b : List Nat) (mc : Int) (t1 : Tok) (t2 : Tok) (t3 : Tok) (dpt : Nat) (unt : Nat) (gd : Option (List Code)) (cn : Str) (cs : Scope) (xa : Addr) (ccd : Value) (cl : List (Str × Addr)) (outerE : List Env) (A₀ : Around) (base : Heap) (h₀ : Heap) (L : Addr) (m : Str → Option Value) (s : Shared) (Q : Value → Shared → Prop) (E : Value → Shared → Prop) (g' : Heap) (L' : Addr) (h' : Heap) (qk : Flow → Shared → Prop) (ek : Value → Shared → Prop), PRED w mean mg mb news a b mc t1 t2 t3 dpt unt gd cn cs xa ccd cl outerE A₀ base h₀ L m s Q E g' L' h' qk ek) → ∀ (w : World) (mean : ExcName → Option Value) (mg mb : Str → Option Value) (news : List (Addr × Obj)) (a b : List Nat) (mc : Int) (t1 t2 t3 : Tok), (∀ c ∈ a, c < 128) → (∀ c ∈ b, c < 128) → a.length ≤ 40 → b.length ≤ 40 →
    Spc w mean mg mb 81 2 news [.str (S a) t1, .str (S b) t2, .int mc t3] (RetV news fun t => .int (lev a b mc) t) } :=
  ⟨_, fun HYP => by
  intro w mean mg mb news a b mc t1 t2 t3 ha hb hla hlb
  dsimp only [Spc, RetV]
  k_fill
  intro dpt unt gd cn cs xa ccd cl outerE A₀ base h₀ L m s Q E hBel hFr hIn hNw hTop hcs hdp hun hret
  refine wpAny_call ?_
  k_dflt (refine' code_def (binds := [(Str.ofString "a", .str (S a) t1), (Str.ofString "b", .str (S b) t2), (Str.ofString "max_cost", .int mc t3)]) ?k1 ?k2 ?k3 ?k4 ?k5 ?kA ?kF ?kK ?k6 ?k7 ?k8 ?k9 ?kB ?_ ?c2 ?c3 ?c4 ?c5; (case kA => exact rfl); (case kF => exact rfl); (case kK => assumption); (case k1 => k_asm); (case k2 => k_asm); (case k3 => k_asm); (case k4 => k_asm); (case k5 => k_asm); (case k6 => k_is); (case k7 => k_is); (case k8 => first | exact Nat.le_of_ble_eq_true rfl | ktr_room); (case k9 => exact BindsTo.of_eq rfl); (case c5 => decide); (case kB => exact locs rfl); (case c2 => exact rfl); (case c3 => exact rfl); (case c4 => exact rfl); k_whole; intro g' L' h' FG' F' N' B' X' T'; (try dsimp only); (try k_lift B'))
  refine cut_qe (by passes_own) ?_
  intro qk ek hqk hek
  (try dsimp only at hqk)
  clear hcs hFr
  revert ha hb hla hlb hBel hIn hNw hTop hdp hun hret FG' F' N' B' X' T' hqk hek
  revert w mean mg mb news a b mc t1 t2 t3 dpt unt gd cn cs xa ccd cl outerE A₀ base h₀ L m s Q E g' L' h' qk ek
  exact HYP⟩
noncomputable def lev_B : World × (ExcName → Option Value) × (Str → Option Value) × (Str → Option Value) × (List (Addr × Obj)) × (List Nat) × (List Nat) × Int × Tok × Tok × Tok × Nat × Nat × (Option (List Code)) × Str × Scope × Addr × Value × (List (Str × Addr)) × (List Env) × Around × Heap × Heap × Addr × (Str → Option Value) × Shared × (Value → Shared → Prop) × (Value → Shared → Prop) × Heap × Addr × Heap × (Flow → Shared → Prop) × (Value → Shared → Prop) → Prop := fun v => lev_in.1 v.1 v.2.1 v.2.2.1 v.2.2.2.1 v.2.2.2.2.1 v.2.2.2.2.2.1 v.2.2.2.2.2.2.1 v.2.2.2.2.2.2.2.1 v.2.2.2.2.2.2.2.2.1 v.2.2.2.2.2.2.2.2.2.1 v.2.2.2.2.2.2.2.2.2.2.1 v.2.2.2.2.2.2.2.2.2.2.2.1 v.2.2.2.2.2.2.2.2.2.2.2.2.1 v.2.2.2.2.2.2.2.2.2.2.2.2.2.1 v.2.2.2.2.2.2.2.2.2.2.2.2.2.2.1 v.2.2.2.2.2.2.2.2.2.2.2.2.2.2.2.1 v.2.2.2.2.2.2.2.2.2.2.2.2.2.2.2.2.1 v.2.2.2.2.2.2.2.2.2.2.2.2.2.2.2.2.2.1 v.2.2.2.2.2.2.2.2.2.2.2.2.2.2.2.2.2.2.1 v.2.2.2.2.2.2.2.2.2.2.2.2.2.2.2.2.2.2.2.1 v.2.2.2.2.2.2.2.2.2.2.2.2.2.2.2.2.2.2.2.2.1 v.2.2.2.2.2.2.2.2.2.2.2.2.2.2.2.2.2.2.2.2.2.1 v.2.2.2.2.2.2.2.2.2.2.2.2.2.2.2.2.2.2.2.2.2.2.1 v.2.2.2.2.2.2.2.2.2.2.2.2.2.2.2.2.2.2.2.2.2.2.2.1 v.2.2.2.2.2.2.2.2.2.2.2.2.2.2.2.2.2.2.2.2.2.2.2.2.1 v.2.2.2.2.2.2.2.2.2.2.2.2.2.2.2.2.2.2.2.2.2.2.2.2.2.1 v.2.2.2.2.2.2.2.2.2.2.2.2.2.2.2.2.2.2.2.2.2.2.2.2.2.2.1 v.2.2.2.2.2.2.2.2.2.2.2.2.2.2.2.2.2.2.2.2.2.2.2.2.2.2.2.1 v.2.2.2.2.2.2.2.2.2.2.2.2.2.2.2.2.2.2.2.2.2.2.2.2.2.2.2.2.1 v.2.2.2.2.2.2.2.2.2.2.2.2.2.2.2.2.2.2.2.2.2.2.2.2.2.2.2.2.2.1 v.2.2.2.2.2.2.2.2.2.2.2.2.2.2.2.2.2.2.2.2.2.2.2.2.2.2.2.2.2.2.1 v.2.2.2.2.2.2.2.2.2.2.2.2.2.2.2.2.2.2.2.2.2.2.2.2.2.2.2.2.2.2.2.1 v.2.2.2.2.2.2.2.2.2.2.2.2.2.2.2.2.2.2.2.2.2.2.2.2.2.2.2.2.2.2.2.2
noncomputable def lev_v : World × (ExcName → Option Value) × (Str → Option Value) × (Str → Option Value) × (List (Addr × Obj)) × (List Nat) × (List Nat) × Int × Tok × Tok × Tok × Nat × Nat × (Option (List Code)) × Str × Scope × Addr × Value × (List (Str × Addr)) × (List Env) × Around × Heap × Heap × Addr × (Str → Option Value) × Shared × (Value → Shared → Prop) × (Value → Shared → Prop) × Heap × Addr × Heap × (Flow → Shared → Prop) × (Value → Shared → Prop) := Classical.choose (drink ⟨(Classical.choice neWorld, default, default, default, default, default, default, default, default, default, default, default, default, default, default, default, default, default, default, default, {}, default, default, default, default, {}, default, default, default, default, default, default, default)⟩ lev_B)
theorem lev_s : lev_B lev_v → ∀ v, lev_B v := by
  with_unfolding_all exact Classical.choose_spec (drink ⟨(Classical.choice neWorld, default, default, default, default, default, default, default, default, default, default, default, default, default, default, default, default, default, default, default, {}, default, default, default, default, {}, default, default, default, default, default, default, default)⟩ lev_B)
namespace levK
noncomputable def w : World := lev_v.1
noncomputable def mean : ExcName → Option Value := lev_v.2.1
noncomputable def mg : Str → Option Value := lev_v.2.2.1
noncomputable def mb : Str → Option Value := lev_v.2.2.2.1
noncomputable def news : List (Addr × Obj) := lev_v.2.2.2.2.1
noncomputable def a : List Nat := lev_v.2.2.2.2.2.1
noncomputable def b : List Nat := lev_v.2.2.2.2.2.2.1
noncomputable def mc : Int := lev_v.2.2.2.2.2.2.2.1
noncomputable def t1 : Tok := lev_v.2.2.2.2.2.2.2.2.1
noncomputable def t2 : Tok := lev_v.2.2.2.2.2.2.2.2.2.1
noncomputable def t3 : Tok := lev_v.2.2.2.2.2.2.2.2.2.2.1
noncomputable def dpt : Nat := lev_v.2.2.2.2.2.2.2.2.2.2.2.1
noncomputable def unt : Nat := lev_v.2.2.2.2.2.2.2.2.2.2.2.2.1
noncomputable def gd : Option (List Code) := lev_v.2.2.2.2.2.2.2.2.2.2.2.2.2.1
noncomputable def cn : Str := lev_v.2.2.2.2.2.2.2.2.2.2.2.2.2.2.1
noncomputable def cs : Scope := lev_v.2.2.2.2.2.2.2.2.2.2.2.2.2.2.2.1
noncomputable def xa : Addr := lev_v.2.2.2.2.2.2.2.2.2.2.2.2.2.2.2.2.1
noncomputable def ccd : Value := lev_v.2.2.2.2.2.2.2.2.2.2.2.2.2.2.2.2.2.1
noncomputable def cl : List (Str × Addr) := lev_v.2.2.2.2.2.2.2.2.2.2.2.2.2.2.2.2.2.2.1
noncomputable def outerE : List Env := lev_v.2.2.2.2.2.2.2.2.2.2.2.2.2.2.2.2.2.2.2.1
noncomputable def A₀ : Around := lev_v.2.2.2.2.2.2.2.2.2.2.2.2.2.2.2.2.2.2.2.2.1
noncomputable def base : Heap := lev_v.2.2.2.2.2.2.2.2.2.2.2.2.2.2.2.2.2.2.2.2.2.1
noncomputable def h₀ : Heap := lev_v.2.2.2.2.2.2.2.2.2.2.2.2.2.2.2.2.2.2.2.2.2.2.1
noncomputable def L : Addr := lev_v.2.2.2.2.2.2.2.2.2.2.2.2.2.2.2.2.2.2.2.2.2.2.2.1
noncomputable def m : Str → Option Value := lev_v.2.2.2.2.2.2.2.2.2.2.2.2.2.2.2.2.2.2.2.2.2.2.2.2.1
noncomputable def s : Shared := lev_v.2.2.2.2.2.2.2.2.2.2.2.2.2.2.2.2.2.2.2.2.2.2.2.2.2.1
noncomputable def Q : Value → Shared → Prop := lev_v.2.2.2.2.2.2.2.2.2.2.2.2.2.2.2.2.2.2.2.2.2.2.2.2.2.2.1
noncomputable def E : Value → Shared → Prop := lev_v.2.2.2.2.2.2.2.2.2.2.2.2.2.2.2.2.2.2.2.2.2.2.2.2.2.2.2.1
noncomputable def g' : Heap := lev_v.2.2.2.2.2.2.2.2.2.2.2.2.2.2.2.2.2.2.2.2.2.2.2.2.2.2.2.2.1
noncomputable def L' : Addr := lev_v.2.2.2.2.2.2.2.2.2.2.2.2.2.2.2.2.2.2.2.2.2.2.2.2.2.2.2.2.2.1
noncomputable def h' : Heap := lev_v.2.2.2.2.2.2.2.2.2.2.2.2.2.2.2.2.2.2.2.2.2.2.2.2.2.2.2.2.2.2.1
noncomputable def qk : Flow → Shared → Prop := lev_v.2.2.2.2.2.2.2.2.2.2.2.2.2.2.2.2.2.2.2.2.2.2.2.2.2.2.2.2.2.2.2.1
noncomputable def ek : Value → Shared → Prop := lev_v.2.2.2.2.2.2.2.2.2.2.2.2.2.2.2.2.2.2.2.2.2.2.2.2.2.2.2.2.2.2.2.2
end levK
open Mine.levK in
noncomputable def lev1_in : { PRED : (Nat → PySem.Tok → PySem.Tok → PySem.Tok → Nat → PySem.Heap → Nat → (List Nat) → (List Nat) → Prop) × (PySem.Heap → Nat → (PySem.Flow → PySem.Shared → Prop) → PySem.Heap → Nat → Nat → PySem.Tok → Prop) // (∀ (k : Nat) (t : PySem.Tok) (tz4 : PySem.Tok) (tz10 : PySem.Tok) (tkz14 : Nat) (hz15 : PySem.Heap) (tk : Nat) (a2 : List Nat) (b2 : List Nat), PRED.1 k t tz4 tz10 tkz14 hz15 tk a2 b2) → (∀ (hz1 : PySem.Heap) (tk : Nat) (MP : PySem.Flow → PySem.Shared → Prop) (h1 : PySem.Heap) (tk1 : Nat) (k : Nat) (t : PySem.Tok), PRED.2 hz1 tk MP h1 tk1 k t) → lev_in.1 levK.w levK.mean levK.mg levK.mb levK.news levK.a levK.b levK.mc levK.t1 levK.t2 levK.t3 levK.dpt levK.unt levK.gd levK.cn levK.cs levK.xa levK.ccd levK.cl levK.outerE levK.A₀ levK.base levK.h₀ levK.L levK.m levK.s levK.Q levK.E levK.g' levK.L' levK.h' levK.qk levK.ek } :=
  ⟨(_, _), fun HYP HYPB => by
  unfold lev_in
  dsimp only
  k_fill
  intro ha hb hla hlb hBel hIn hNw hTop hdp hun hret FG' F' N' B' X' T' hqk hek
  have hla' : (S a).length ≤ 40 := by rw [S_len]; exact hla
  have hlb' : (S b).length ≤ 40 := by rw [S_len]; exact hlb
  repeat' ((fail_if_success (with_reducible show LCg.CompSrc _ _ _ _ _ _ _ _ _ _ _ _ _ _)); (fail_if_success (with_reducible show LCg.CompEnd _ _ _ _ _ _ _ _ _ _ _ _ _ _)); (fail_if_success (with_reducible show InvPostR _ _ _ _ _ _ _ _)); (fail_if_success (with_reducible show Mid0 _ _ _ _ _ _)); (fail_if_success (with_reducible show WhileStep2 _ _ _ _ _ _ _ _)); (fail_if_success (with_reducible show InvPostN _ _ _ _ _ _ _ _ _)); (fail_if_success (with_reducible show wpAny _ _ (exec (Stmt.While _ _ _ _) _) _ _ _)); (fail_if_success (with_reducible show wpAny _ _ (exec (Stmt.For _ _ _ _ _) _) _ _ _)); first | (k_unfold; (try dsimp only)) | ((with_reducible refine hqk _ _ ?_); (try dsimp only)) | (walk1 <;> (try dsimp only)) | (dsimp only; walk1) | (leave1; walk_say "STEP leave1"; try dsimp only) | fail "no step")
  · rename (S a == S b) = true => heq
    exact retI hret (by have := S_inj.mp (eq_of_beq heq); rw [← this]; simp [lev]) (by k_asm) (by k_asm)
  rename (S a == S b) = false => hne
  replace hne : a ≠ b := fun e => by rw [e] at hne; simp at hne
  (rename Fr _ _ _ _ => F1); (rename News _ _ _ _ => N1)
  refine' mid0 (h₀ := g') (L := L') (fun m nx => news = nx ∧ ∃ (k : Nat) (t : Tok), k ≤ a.length ∧ k ≤ b.length ∧ pfx a b = (a.drop k, b.drop k) ∧
      m = lk [(Str.ofString "pre", .int k t), (Str.ofString "a", .str (S a) t1), (Str.ofString "b", .str (S b) t2), (Str.ofString "max_cost", .int mc t3)]) ?lp ?co
  case lp =>
    refine gen_post1 ?_
    intro MP hMP
    refine' While_inv2 (fun n m nx => news = nx ∧ ∃ (k : Nat) (t : Tok), n = a.length - k ∧ k ≤ a.length ∧ k ≤ b.length ∧ pfx (a.drop k) (b.drop k) = pfx a b ∧
      m = lk [(Str.ofString "pre", .int k t), (Str.ofString "a", .str (S a) t1), (Str.ofString "b", .str (S b) t2), (Str.ofString "max_cost", .int mc t3)]) F1 N1 ⟨rfl, 0, ?tk, rfl, Nat.zero_le _, Nat.zero_le _, rfl, ?hm⟩ ?tn
    case hm => (refine' feq [Str.ofString "pre", Str.ofString "a", Str.ofString "b", Str.ofString "max_cost"] ?fqm ?fqo; (case fqm => (repeat' (first | exact List.forall_mem_nil _ | (refine List.forall_mem_cons.mpr ⟨by with_unfolding_all rfl, ?_⟩)))); (case fqo => (intro y hy; simp only [List.forall_mem_cons, List.not_mem_nil, false_implies, implies_true, and_true] at hy; have hy2 := hy; simp only [← beq_eq_false_iff_ne] at hy2; simp [hy, hy2, List.lookup_cons, lk, lkj, List.contains_cons, List.contains_nil])))
    clear F1 N1
    rintro n m1 nx h1 tk1 F2 N2 ⟨rfl, k, t, rfl, hk1, hk2, hp, rfl⟩
    rename_i tkz0 hz1
    revert F2; revert hp; revert hk2; revert hk1; revert N2; revert hMP; revert hne; revert hlb'; revert hla'; revert hek; revert hqk; revert T'; revert X'; revert B'; revert FG'; revert hret; revert hun; revert hdp; revert hTop; revert hNw; revert hIn; revert hBel; revert hlb; revert hla; revert hb; revert ha
    revert t; revert k; revert tk1; revert h1; revert MP; revert tk; revert hz1
    exact HYPB
  clear F1 N1
  rintro h1 tk1 m1 nx ⟨rfl, k, t, hk1, hk2, hp, rfl⟩ F2 N2
  dsimp only
  repeat' ((fail_if_success (with_reducible show LCg.CompSrc _ _ _ _ _ _ _ _ _ _ _ _ _ _)); (fail_if_success (with_reducible show LCg.CompEnd _ _ _ _ _ _ _ _ _ _ _ _ _ _)); (fail_if_success (with_reducible show InvPostR _ _ _ _ _ _ _ _)); (fail_if_success (with_reducible show Mid0 _ _ _ _ _ _)); (fail_if_success (with_reducible show WhileStep2 _ _ _ _ _ _ _ _)); (fail_if_success (with_reducible show InvPostN _ _ _ _ _ _ _ _ _)); (fail_if_success (with_reducible show wpAny _ _ (exec (Stmt.While _ _ _ _) _) _ _ _)); (fail_if_success (with_reducible show wpAny _ _ (exec (Stmt.For _ _ _ _ _) _) _ _ _)); first | (k_unfold; (try dsimp only)) | ((with_reducible refine hqk _ _ ?_); (try dsimp only)) | (walk1 <;> (try dsimp only)) | (dsimp only; walk1) | (leave1; walk_say "STEP leave1"; try dsimp only) | fail "no step")
  (rename Fr _ _ _ _ => F1); (rename News _ _ _ _ => N1)
  simp only [slice_from hk1, slice_from hk2] at F1
  have c1 : (a.drop k).length ≤ 40 := by rw [List.length_drop]; omega
  have c2 : (b.drop k).length ≤ 40 := by rw [List.length_drop]; omega
  have ca : ∀ c ∈ a.drop k, c < 128 := fun c hc => ha c (List.mem_of_mem_drop hc)
  have cb : ∀ c ∈ b.drop k, c < 128 := fun c hc => hb c (List.mem_of_mem_drop hc)
  have hR : lev a b mc = levB (a.drop k) (b.drop k) mc := by rw [lev, if_neg hne, hp]
  rw [hR] at hret
  generalize a.drop k = a2 at *
  generalize b.drop k = b2 at *
  clear hp hk1 hk2 hR hla hlb hla' hlb' ha hb hne
  have hla' : (S a2).length ≤ 40 := by rw [S_len]; exact c1
  have hlb' : (S b2).length ≤ 40 := by rw [S_len]; exact c2
  rename_i tkz0 hz1 tkz2 hz3 tz4 kz5 az6 hz7 tkz8 hz9 tz10 kz11 az12 hz13 tkz14 hz15
  revert hlb'; revert hla'; revert F1; revert hret; revert cb; revert c2; revert ca; revert c1; revert N1; revert az12; revert az6; revert hek; revert hqk; revert T'; revert X'; revert B'; revert FG'; revert hun; revert hdp; revert hTop; revert hNw; revert hIn; revert hBel
  revert b2; revert a2; revert tk; revert hz15; revert tkz14; revert tz10; revert tz4; revert t; revert k
  exact HYP⟩
noncomputable def lev1_B : Nat × PySem.Tok × PySem.Tok × PySem.Tok × Nat × PySem.Heap × Nat × (List Nat) × (List Nat) → Prop := fun v => lev1_in.1.1 v.1 v.2.1 v.2.2.1 v.2.2.2.1 v.2.2.2.2.1 v.2.2.2.2.2.1 v.2.2.2.2.2.2.1 v.2.2.2.2.2.2.2.1 v.2.2.2.2.2.2.2.2
noncomputable def lev1_v : Nat × PySem.Tok × PySem.Tok × PySem.Tok × Nat × PySem.Heap × Nat × (List Nat) × (List Nat) := Classical.choose (drink ⟨(default, default, default, default, default, default, default, default, default)⟩ lev1_B)
theorem lev1_s : lev1_B lev1_v → ∀ v, lev1_B v := by
  with_unfolding_all exact Classical.choose_spec (drink ⟨(default, default, default, default, default, default, default, default, default)⟩ lev1_B)
namespace lev1K
noncomputable def k : Nat := lev1_v.1
noncomputable def t : PySem.Tok := lev1_v.2.1
noncomputable def tz4 : PySem.Tok := lev1_v.2.2.1
noncomputable def tz10 : PySem.Tok := lev1_v.2.2.2.1
noncomputable def tkz14 : Nat := lev1_v.2.2.2.2.1
noncomputable def hz15 : PySem.Heap := lev1_v.2.2.2.2.2.1
noncomputable def tk : Nat := lev1_v.2.2.2.2.2.2.1
noncomputable def a2 : List Nat := lev1_v.2.2.2.2.2.2.2.1
noncomputable def b2 : List Nat := lev1_v.2.2.2.2.2.2.2.2
end lev1K
noncomputable def levA_B : PySem.Heap × Nat × (PySem.Flow → PySem.Shared → Prop) × PySem.Heap × Nat × Nat × PySem.Tok → Prop := fun v => lev1_in.1.2 v.1 v.2.1 v.2.2.1 v.2.2.2.1 v.2.2.2.2.1 v.2.2.2.2.2.1 v.2.2.2.2.2.2
noncomputable def levA_v : PySem.Heap × Nat × (PySem.Flow → PySem.Shared → Prop) × PySem.Heap × Nat × Nat × PySem.Tok := Classical.choose (drink ⟨(default, default, default, default, default, default, default)⟩ levA_B)
theorem levA_s : levA_B levA_v → ∀ v, levA_B v := by
  with_unfolding_all exact Classical.choose_spec (drink ⟨(default, default, default, default, default, default, default)⟩ levA_B)
namespace levAK
noncomputable def hz1 : PySem.Heap := levA_v.1
noncomputable def tk : Nat := levA_v.2.1
noncomputable def MP : PySem.Flow → PySem.Shared → Prop := levA_v.2.2.1
noncomputable def h1 : PySem.Heap := levA_v.2.2.2.1
noncomputable def tk1 : Nat := levA_v.2.2.2.2.1
noncomputable def k : Nat := levA_v.2.2.2.2.2.1
noncomputable def t : PySem.Tok := levA_v.2.2.2.2.2.2
end levAK
open Mine.levK in
open Mine.levAK in
theorem levA_c : lev1_in.1.2 levAK.hz1 levAK.tk levAK.MP levAK.h1 levAK.tk1 levAK.k levAK.t := by
  unfold lev1_in
  dsimp only
  k_fill
  intro ha hb hla hlb hBel hIn hNw hTop hdp hun hret FG' B' X' T' hqk hek hla' hlb' hne hMP N2 hk1 hk2 hp F2
  --CUTA
  repeat' ((fail_if_success (with_reducible show LCg.CompSrc _ _ _ _ _ _ _ _ _ _ _ _ _ _)); (fail_if_success (with_reducible show LCg.CompEnd _ _ _ _ _ _ _ _ _ _ _ _ _ _)); (fail_if_success (with_reducible show InvPostR _ _ _ _ _ _ _ _)); (fail_if_success (with_reducible show Mid0 _ _ _ _ _ _)); (fail_if_success (with_reducible show WhileStep2 _ _ _ _ _ _ _ _)); (fail_if_success (with_reducible show InvPostN _ _ _ _ _ _ _ _ _)); (fail_if_success (with_reducible show wpAny _ _ (exec (Stmt.While _ _ _ _) _) _ _ _)); (fail_if_success (with_reducible show wpAny _ _ (exec (Stmt.For _ _ _ _ _) _) _ _ _)); first | (k_unfold; (try dsimp only)) | ((with_reducible refine hqk _ _ ?_); (try dsimp only)) | (walk1 <;> (try dsimp only)) | (dsimp only; walk1) | (leave1; walk_say "STEP leave1"; try dsimp only) | fail "no step")
  all_goals first
    | exact Mid0.to hMP (by assumption) (by assumption) ⟨rfl, k, t, hk1, hk2, hp.symm.trans (pex1 hk1 (by assumption)), rfl⟩
    | exact Mid0.to hMP (by assumption) (by assumption) ⟨rfl, k, t, hk1, hk2, hp.symm.trans (pex2 hk2 (by assumption)), rfl⟩
    | exact Mid0.to hMP (by assumption) (by assumption) ⟨rfl, k, t, hk1, hk2, hp.symm.trans (pex3 hk1 hk2 (by assumption) (by assumption) (by assumption)), rfl⟩
    | skip
  obtain ⟨g1, g2, g3⟩ := pgo (a := a) (b := b) hk1 hk2 (by assumption) (by assumption) (by assumption)
  refine' step2 (a.length - (k + 1)) (by assumption) (by assumption) (Nat.sub_lt_sub_left g1 (Nat.lt_succ_self k)) ⟨rfl, k + 1, ?tk2, rfl, g1, g2, g3.symm.trans hp, ?hm2⟩
  case hm2 => (refine' feq [Str.ofString "pre", Str.ofString "a", Str.ofString "b", Str.ofString "max_cost"] ?fqm ?fqo; (case fqm => (repeat' (first | exact List.forall_mem_nil _ | (refine List.forall_mem_cons.mpr ⟨by with_unfolding_all rfl, ?_⟩)))); (case fqo => (intro y hy; simp only [List.forall_mem_cons, List.not_mem_nil, false_implies, implies_true, and_true] at hy; have hy2 := hy; simp only [← beq_eq_false_iff_ne] at hy2; simp [hy, hy2, List.lookup_cons, lk, lkj, List.contains_cons, List.contains_nil])))
open Mine.levK in
open Mine.lev1K in
noncomputable def lev2_in : { PRED : (PySem.Heap → Nat → Nat → PySem.Tok → PySem.Tok → PySem.Tok → PySem.Tok → Prop) × ((PySem.Flow → PySem.Shared → Prop) → PySem.Heap → Nat → Nat → PySem.Tok → PySem.Tok → PySem.Tok → PySem.Tok → Prop) // (∀ (h1 : PySem.Heap) (tk1 : Nat) (j : Nat) (t : PySem.Tok) (tt : PySem.Tok) (u1 : PySem.Tok) (u2 : PySem.Tok), PRED.1 h1 tk1 j t tt u1 u2) → (∀ (MP : PySem.Flow → PySem.Shared → Prop) (h1 : PySem.Heap) (tk1 : Nat) (j : Nat) (t : PySem.Tok) (tt : PySem.Tok) (u1 : PySem.Tok) (u2 : PySem.Tok), PRED.2 MP h1 tk1 j t tt u1 u2) → lev1_in.1.1 lev1K.k lev1K.t lev1K.tz4 lev1K.tz10 lev1K.tkz14 lev1K.hz15 lev1K.tk lev1K.a2 lev1K.b2 } :=
  ⟨(_, _), fun HYP HYPB => by
  unfold lev1_in
  dsimp only
  k_fill
  intro hBel hIn hNw hTop hdp hun FG' B' X' T' hqk hek az6 az12 N1 c1 ca c2 cb hret F1 hla' hlb'
  --CUT1
  refine' mid0 (h₀ := g') (L := L') (fun m nx => news = nx ∧ ∃ (j : Nat) (t tt u1 u2 : Tok), j ≤ a2.length ∧ j ≤ b2.length ∧ sfx a2 b2 = (a2.take (a2.length - j), b2.take (b2.length - j)) ∧
      m = lk [(Str.ofString "post", .int (-(j : Int)) t), (Str.ofString "pre", .int k tt), (Str.ofString "a", .str (S a2) u1), (Str.ofString "b", .str (S b2) u2), (Str.ofString "max_cost", .int mc t3)]) ?lpB ?coB
  case lpB =>
    refine gen_post1 ?_
    intro MP hMP
    refine' While_inv2 (fun n m nx => news = nx ∧ ∃ (j : Nat) (t tt u1 u2 : Tok), n = a2.length - j ∧ j ≤ a2.length ∧ j ≤ b2.length ∧ sfx (a2.take (a2.length - j)) (b2.take (b2.length - j)) = sfx a2 b2 ∧
      m = lk [(Str.ofString "post", .int (-(j : Int)) t), (Str.ofString "pre", .int k tt), (Str.ofString "a", .str (S a2) u1), (Str.ofString "b", .str (S b2) u2), (Str.ofString "max_cost", .int mc t3)]) F1 N1 ⟨rfl, 0, ?tkB, ?ttB, ?u1B, ?u2B, rfl, Nat.zero_le _, Nat.zero_le _, sfx_start _ _, ?hmB⟩ ?tnB
    case hmB => (refine' feq [Str.ofString "post", Str.ofString "pre", Str.ofString "a", Str.ofString "b", Str.ofString "max_cost"] ?fqm ?fqo; (case fqm => (repeat' (first | exact List.forall_mem_nil _ | (refine List.forall_mem_cons.mpr ⟨by with_unfolding_all rfl, ?_⟩)))); (case fqo => (intro y hy; simp only [List.forall_mem_cons, List.not_mem_nil, false_implies, implies_true, and_true] at hy; have hy2 := hy; simp only [← beq_eq_false_iff_ne] at hy2; simp [hy, hy2, List.lookup_cons, lk, lkj, List.contains_cons, List.contains_nil])))
    clear F1 N1
    rintro n m1 nx h1 tk1 F2 N2 ⟨rfl, j, t, tt, u1, u2, rfl, hk1, hk2, hp, rfl⟩
    have hSa := S_len a2
    have hSb := S_len b2
    rcases Nat.eq_zero_or_pos j with hj | hj
    · subst hj
      simp only [show (-((0 : Nat) : Int)) = 0 from rfl] at F2
      have hna := slen_nn a2
      have hnb := slen_nn b2
      --CUTB
      repeat' ((fail_if_success (with_reducible show LCg.CompSrc _ _ _ _ _ _ _ _ _ _ _ _ _ _)); (fail_if_success (with_reducible show LCg.CompEnd _ _ _ _ _ _ _ _ _ _ _ _ _ _)); (fail_if_success (with_reducible show InvPostR _ _ _ _ _ _ _ _)); (fail_if_success (with_reducible show Mid0 _ _ _ _ _ _)); (fail_if_success (with_reducible show WhileStep2 _ _ _ _ _ _ _ _)); (fail_if_success (with_reducible show InvPostN _ _ _ _ _ _ _ _ _)); (fail_if_success (with_reducible show wpAny _ _ (exec (Stmt.While _ _ _ _) _) _ _ _)); (fail_if_success (with_reducible show wpAny _ _ (exec (Stmt.For _ _ _ _ _) _) _ _ _)); first | (k_unfold; (try dsimp only)) | ((with_reducible refine hqk _ _ ?_); (try dsimp only)) | (walk1 <;> (try dsimp only)) | (dsimp only; walk1) | (leave1; walk_say "STEP leave1"; try dsimp only) | fail "no step")
      all_goals first
        | (exfalso; omega)
        | exact Mid0.to hMP (by assumption) (by assumption) ⟨rfl, 0, t, tt, u1, u2, hk1, hk2, hp.symm.trans (sfx_out_l (jge0 hna (by assumption))), rfl⟩
        | exact Mid0.to hMP (by assumption) (by assumption) ⟨rfl, 0, t, tt, u1, u2, hk1, hk2, hp.symm.trans (sfx_out_r (jge0 hnb (by assumption))), rfl⟩
        | exact Mid0.to hMP (by assumption) (by assumption) ⟨rfl, 0, t, tt, u1, u2, hk1, hk2, hp.symm.trans (sfx_stop (jl0 hna (by assumption)) (jl0 hnb (by assumption)) (sx_ne (jl0 hna (by assumption)) (jl0 hnb (by assumption)) (by assumption))), rfl⟩
        | skip
      have g1 : 0 < a2.length := jl0 hna (by assumption)
      have g2 : 0 < b2.length := jl0 hnb (by assumption)
      refine' step2 (a2.length - (0 + 1)) (by assumption) (by assumption) (Nat.sub_lt_sub_left g1 (Nat.lt_succ_self 0)) ⟨rfl, 0 + 1, ?tkC, ?ttC, ?u1C, ?u2C, rfl, g1, g2, (sfx_step g1 g2 (sx_eq g1 g2 (by assumption))).symm.trans hp, ?hmC⟩
      case hmC =>
        (refine' feq [Str.ofString "post", Str.ofString "pre", Str.ofString "a", Str.ofString "b", Str.ofString "max_cost"] ?fqm ?fqo; (case fqm => (repeat' (first | exact List.forall_mem_nil _ | (refine List.forall_mem_cons.mpr ⟨by with_unfolding_all rfl, ?_⟩)))); (case fqo => (intro y hy; simp only [List.forall_mem_cons, List.not_mem_nil, false_implies, implies_true, and_true] at hy; have hy2 := hy; simp only [← beq_eq_false_iff_ne] at hy2; simp [hy, hy2, List.lookup_cons, lk, lkj, List.contains_cons, List.contains_nil])))
    · have hfa := slen_neg hj hk1
      have hfb := slen_neg hj hk2
      revert hfb; revert hfa; revert hj; revert hSb; revert hSa; revert F2; revert hp; revert hk2; revert hk1; revert N2; revert hMP; revert hlb'; revert hla'; revert hret; revert cb; revert c2; revert ca; revert c1; revert az12; revert az6; revert hek; revert hqk; revert T'; revert X'; revert B'; revert FG'; revert hun; revert hdp; revert hTop; revert hNw; revert hIn; revert hBel
      revert u2; revert u1; revert tt; revert t; revert j; revert tk1; revert h1; revert MP
      exact HYPB
  clear F1 N1
  rintro h1 tk1 m1 nx ⟨rfl, j, t, tt, u1, u2, hk1, hk2, hp, rfl⟩ F2 N2
  dsimp only
  have hSa := S_len a2
  have hSb := S_len b2
  have hR : levB a2 b2 mc = levC (a2.take (a2.length - j)) (b2.take (b2.length - j)) mc := by rw [levB, hp]
  rw [hR] at hret
  revert hR; revert hSb; revert hSa; revert N2; revert F2; revert hp; revert hk2; revert hk1; revert hret; revert hlb'; revert hla'; revert cb; revert c2; revert ca; revert c1; revert az12; revert az6; revert hek; revert hqk; revert T'; revert X'; revert B'; revert FG'; revert hun; revert hdp; revert hTop; revert hNw; revert hIn; revert hBel
  revert u2; revert u1; revert tt; revert t; revert j; revert tk1; revert h1
  exact HYP⟩
noncomputable def lev2_B : PySem.Heap × Nat × Nat × PySem.Tok × PySem.Tok × PySem.Tok × PySem.Tok → Prop := fun v => lev2_in.1.1 v.1 v.2.1 v.2.2.1 v.2.2.2.1 v.2.2.2.2.1 v.2.2.2.2.2.1 v.2.2.2.2.2.2
noncomputable def lev2_v : PySem.Heap × Nat × Nat × PySem.Tok × PySem.Tok × PySem.Tok × PySem.Tok := Classical.choose (drink ⟨(default, default, default, default, default, default, default)⟩ lev2_B)
theorem lev2_s : lev2_B lev2_v → ∀ v, lev2_B v := by
  with_unfolding_all exact Classical.choose_spec (drink ⟨(default, default, default, default, default, default, default)⟩ lev2_B)
namespace lev2K
noncomputable def h1 : PySem.Heap := lev2_v.1
noncomputable def tk1 : Nat := lev2_v.2.1
noncomputable def j : Nat := lev2_v.2.2.1
noncomputable def t : PySem.Tok := lev2_v.2.2.2.1
noncomputable def tt : PySem.Tok := lev2_v.2.2.2.2.1
noncomputable def u1 : PySem.Tok := lev2_v.2.2.2.2.2.1
noncomputable def u2 : PySem.Tok := lev2_v.2.2.2.2.2.2
end lev2K
noncomputable def levC_B : (PySem.Flow → PySem.Shared → Prop) × PySem.Heap × Nat × Nat × PySem.Tok × PySem.Tok × PySem.Tok × PySem.Tok → Prop := fun v => lev2_in.1.2 v.1 v.2.1 v.2.2.1 v.2.2.2.1 v.2.2.2.2.1 v.2.2.2.2.2.1 v.2.2.2.2.2.2.1 v.2.2.2.2.2.2.2
noncomputable def levC_v : (PySem.Flow → PySem.Shared → Prop) × PySem.Heap × Nat × Nat × PySem.Tok × PySem.Tok × PySem.Tok × PySem.Tok := Classical.choose (drink ⟨(default, default, default, default, default, default, default, default)⟩ levC_B)
theorem levC_s : levC_B levC_v → ∀ v, levC_B v := by
  with_unfolding_all exact Classical.choose_spec (drink ⟨(default, default, default, default, default, default, default, default)⟩ levC_B)
namespace levCK
noncomputable def MP : PySem.Flow → PySem.Shared → Prop := levC_v.1
noncomputable def h1 : PySem.Heap := levC_v.2.1
noncomputable def tk1 : Nat := levC_v.2.2.1
noncomputable def j : Nat := levC_v.2.2.2.1
noncomputable def t : PySem.Tok := levC_v.2.2.2.2.1
noncomputable def tt : PySem.Tok := levC_v.2.2.2.2.2.1
noncomputable def u1 : PySem.Tok := levC_v.2.2.2.2.2.2.1
noncomputable def u2 : PySem.Tok := levC_v.2.2.2.2.2.2.2
end levCK
open Mine.levK in
open Mine.lev1K hiding t in
open Mine.levCK in
theorem levC_c : lev2_in.1.2 levCK.MP levCK.h1 levCK.tk1 levCK.j levCK.t levCK.tt levCK.u1 levCK.u2 := by
  unfold lev2_in
  dsimp only
  k_fill
  intro hBel hIn hNw hTop hdp hun FG' B' X' T' hqk hek az6 az12 c1 ca c2 cb hret hla' hlb' hMP N2 hk1 hk2 hp F2 hSa hSb hj hfa hfb
  --CUTC
  repeat' ((fail_if_success (with_reducible show LCg.CompSrc _ _ _ _ _ _ _ _ _ _ _ _ _ _)); (fail_if_success (with_reducible show LCg.CompEnd _ _ _ _ _ _ _ _ _ _ _ _ _ _)); (fail_if_success (with_reducible show InvPostR _ _ _ _ _ _ _ _)); (fail_if_success (with_reducible show Mid0 _ _ _ _ _ _)); (fail_if_success (with_reducible show WhileStep2 _ _ _ _ _ _ _ _)); (fail_if_success (with_reducible show InvPostN _ _ _ _ _ _ _ _ _)); (fail_if_success (with_reducible show wpAny _ _ (exec (Stmt.While _ _ _ _) _) _ _ _)); (fail_if_success (with_reducible show wpAny _ _ (exec (Stmt.For _ _ _ _ _) _) _ _ _)); first | (k_unfold; (try dsimp only)) | ((with_reducible refine hqk _ _ ?_); (try dsimp only)) | (walk1 <;> (try dsimp only)) | (dsimp only; walk1) | (leave1; walk_say "STEP leave1"; try dsimp only) | fail "no step")
  all_goals first
    | (exfalso; omega)
    | exact Mid0.to hMP (by assumption) (by assumption) ⟨rfl, j, t, tt, u1, u2, hk1, hk2, hp.symm.trans (sfx_out_l (jge hfa (by assumption))), rfl⟩
    | exact Mid0.to hMP (by assumption) (by assumption) ⟨rfl, j, t, tt, u1, u2, hk1, hk2, hp.symm.trans (sfx_out_r (jge hfb (by assumption))), rfl⟩
    | exact Mid0.to hMP (by assumption) (by assumption) ⟨rfl, j, t, tt, u1, u2, hk1, hk2, hp.symm.trans (sfx_stop (jlt hfa (by assumption)) (jlt hfb (by assumption)) (sx_ne (jlt hfa (by assumption)) (jlt hfb (by assumption)) (by assumption))), rfl⟩
    | skip
  have g1 : j < a2.length := jlt hfa (by assumption)
  have g2 : j < b2.length := jlt hfb (by assumption)
  refine' step2 (a2.length - (j + 1)) (by assumption) (by assumption) (Nat.sub_lt_sub_left g1 (Nat.lt_succ_self j)) ⟨rfl, j + 1, ?tkD, ?ttD, ?u1D, ?u2D, rfl, g1, g2, (sfx_step g1 g2 (sx_eq g1 g2 (by assumption))).symm.trans hp, ?hmD⟩
  case hmD =>
    rw [show (-((j + 1 : Nat) : Int)) = -(j : Int) - 1 from by omega]
    (refine' feq [Str.ofString "post", Str.ofString "pre", Str.ofString "a", Str.ofString "b", Str.ofString "max_cost"] ?fqm ?fqo; (case fqm => (repeat' (first | exact List.forall_mem_nil _ | (refine List.forall_mem_cons.mpr ⟨by with_unfolding_all rfl, ?_⟩)))); (case fqo => (intro y hy; simp only [List.forall_mem_cons, List.not_mem_nil, false_implies, implies_true, and_true] at hy; have hy2 := hy; simp only [← beq_eq_false_iff_ne] at hy2; simp [hy, hy2, List.lookup_cons, lk, lkj, List.contains_cons, List.contains_nil])))
open Mine.levK in
open Mine.lev1K hiding t in
open Mine.lev2K in
noncomputable def lev3_in : { PRED : PySem.Tok → PySem.Heap → Nat → PySem.Tok → (List Nat) → (List Nat) → Prop // (∀ (u1 : PySem.Tok) (h1 : PySem.Heap) (tk1 : Nat) (u2 : PySem.Tok) (a3 : List Nat) (b3 : List Nat), PRED u1 h1 tk1 u2 a3 b3) → lev2_in.1.1 lev2K.h1 lev2K.tk1 lev2K.j lev2K.t lev2K.tt lev2K.u1 lev2K.u2 } :=
  ⟨_, fun HYP => by
  unfold lev2_in
  dsimp only
  k_fill
  intro hBel hIn hNw hTop hdp hun FG' B' X' T' hqk hek az6 az12 c1 ca c2 cb hla' hlb' hret hk1 hk2 hp F2 N2 hSa hSb hR
  --CUT2
  repeat' ((fail_if_success (with_reducible show wpAny _ _ (exec _ _) _ _ _)); (fail_if_success (with_reducible show LCg.CompSrc _ _ _ _ _ _ _ _ _ _ _ _ _ _)); (fail_if_success (with_reducible show LCg.CompEnd _ _ _ _ _ _ _ _ _ _ _ _ _ _)); (fail_if_success (with_reducible show InvPostR _ _ _ _ _ _ _ _)); (fail_if_success (with_reducible show Mid0 _ _ _ _ _ _)); (fail_if_success (with_reducible show WhileStep2 _ _ _ _ _ _ _ _)); (fail_if_success (with_reducible show InvPostN _ _ _ _ _ _ _ _ _)); (fail_if_success (with_reducible show wpAny _ _ (exec (Stmt.While _ _ _ _) _) _ _ _)); (fail_if_success (with_reducible show wpAny _ _ (exec (Stmt.For _ _ _ _ _) _) _ _ _)); first | (k_unfold; (try dsimp only)) | ((with_reducible refine hqk _ _ ?_); (try dsimp only)) | (walk1 <;> (try dsimp only)) | (dsimp only; walk1) | (leave1; walk_say "STEP leave1"; try dsimp only) | fail "no step")
  refine' mid0 (h₀ := g') (L := L') (fun m nx => news = nx ∧ ∃ (u : Tok),
      m = lk [(Str.ofString "post", .int (-(j : Int)) t), (Str.ofString "pre", .int k tt), (Str.ofString "a", .str (S (a2.take (a2.length - j))) u), (Str.ofString "b", .str (S b2) u2), (Str.ofString "max_cost", .int mc t3)]) ?lpE ?coE
  case lpE =>
    refine gen_post1 ?_
    intro MP hMP
    rcases Nat.eq_zero_or_pos j with hj | hj
    · rw [hj] at F2
      simp only [show (-((0 : Nat) : Int)) = 0 from rfl] at F2
      repeat' ((fail_if_success (with_reducible show LCg.CompSrc _ _ _ _ _ _ _ _ _ _ _ _ _ _)); (fail_if_success (with_reducible show LCg.CompEnd _ _ _ _ _ _ _ _ _ _ _ _ _ _)); (fail_if_success (with_reducible show InvPostR _ _ _ _ _ _ _ _)); (fail_if_success (with_reducible show Mid0 _ _ _ _ _ _)); (fail_if_success (with_reducible show WhileStep2 _ _ _ _ _ _ _ _)); (fail_if_success (with_reducible show InvPostN _ _ _ _ _ _ _ _ _)); (fail_if_success (with_reducible show wpAny _ _ (exec (Stmt.While _ _ _ _) _) _ _ _)); (fail_if_success (with_reducible show wpAny _ _ (exec (Stmt.For _ _ _ _ _) _) _ _ _)); first | (k_unfold; (try dsimp only)) | ((with_reducible refine hqk _ _ ?_); (try dsimp only)) | (walk1 <;> (try dsimp only)) | (dsimp only; walk1) | (leave1; walk_say "STEP leave1"; try dsimp only) | fail "no step")
      (rename Fr _ _ _ _ => F1); (rename News _ _ _ _ => N1)
      simp only [slice_nn] at F1
      refine' Mid0.to hMP F1 N1 ⟨rfl, ?uE, ?hmE⟩
      case hmE =>
        rw [hj]
        simp only [show (-((0 : Nat) : Int)) = 0 from rfl, Nat.sub_zero, List.take_length]
        (refine' feq [Str.ofString "post", Str.ofString "pre", Str.ofString "a", Str.ofString "b", Str.ofString "max_cost"] ?fqm ?fqo; (case fqm => (repeat' (first | exact List.forall_mem_nil _ | (refine List.forall_mem_cons.mpr ⟨by with_unfolding_all rfl, ?_⟩)))); (case fqo => (intro y hy; simp only [List.forall_mem_cons, List.not_mem_nil, false_implies, implies_true, and_true] at hy; have hy2 := hy; simp only [← beq_eq_false_iff_ne] at hy2; simp [hy, hy2, List.lookup_cons, lk, lkj, List.contains_cons, List.contains_nil])))
    · repeat' ((fail_if_success (with_reducible show LCg.CompSrc _ _ _ _ _ _ _ _ _ _ _ _ _ _)); (fail_if_success (with_reducible show LCg.CompEnd _ _ _ _ _ _ _ _ _ _ _ _ _ _)); (fail_if_success (with_reducible show InvPostR _ _ _ _ _ _ _ _)); (fail_if_success (with_reducible show Mid0 _ _ _ _ _ _)); (fail_if_success (with_reducible show WhileStep2 _ _ _ _ _ _ _ _)); (fail_if_success (with_reducible show InvPostN _ _ _ _ _ _ _ _ _)); (fail_if_success (with_reducible show wpAny _ _ (exec (Stmt.While _ _ _ _) _) _ _ _)); (fail_if_success (with_reducible show wpAny _ _ (exec (Stmt.For _ _ _ _ _) _) _ _ _)); first | (k_unfold; (try dsimp only)) | ((with_reducible refine hqk _ _ ?_); (try dsimp only)) | (walk1 <;> (try dsimp only)) | (dsimp only; walk1) | (leave1; walk_say "STEP leave1"; try dsimp only) | fail "no step")
      all_goals (try (exfalso; omega))
      (rename Fr _ _ _ _ => F1); (rename News _ _ _ _ => N1)
      simp only [slice_neg hj hk1] at F1
      refine' Mid0.to hMP F1 N1 ⟨rfl, ?uF, ?hmF⟩
      case hmF => (refine' feq [Str.ofString "post", Str.ofString "pre", Str.ofString "a", Str.ofString "b", Str.ofString "max_cost"] ?fqm ?fqo; (case fqm => (repeat' (first | exact List.forall_mem_nil _ | (refine List.forall_mem_cons.mpr ⟨by with_unfolding_all rfl, ?_⟩)))); (case fqo => (intro y hy; simp only [List.forall_mem_cons, List.not_mem_nil, false_implies, implies_true, and_true] at hy; have hy2 := hy; simp only [← beq_eq_false_iff_ne] at hy2; simp [hy, hy2, List.lookup_cons, lk, lkj, List.contains_cons, List.contains_nil])))
  clear F2 N2
  rintro h1 tk1 m1 nx ⟨rfl, u1, rfl⟩ F2 N2
  dsimp only
  repeat' ((fail_if_success (with_reducible show wpAny _ _ (exec _ _) _ _ _)); (fail_if_success (with_reducible show LCg.CompSrc _ _ _ _ _ _ _ _ _ _ _ _ _ _)); (fail_if_success (with_reducible show LCg.CompEnd _ _ _ _ _ _ _ _ _ _ _ _ _ _)); (fail_if_success (with_reducible show InvPostR _ _ _ _ _ _ _ _)); (fail_if_success (with_reducible show Mid0 _ _ _ _ _ _)); (fail_if_success (with_reducible show WhileStep2 _ _ _ _ _ _ _ _)); (fail_if_success (with_reducible show InvPostN _ _ _ _ _ _ _ _ _)); (fail_if_success (with_reducible show wpAny _ _ (exec (Stmt.While _ _ _ _) _) _ _ _)); (fail_if_success (with_reducible show wpAny _ _ (exec (Stmt.For _ _ _ _ _) _) _ _ _)); first | (k_unfold; (try dsimp only)) | ((with_reducible refine hqk _ _ ?_); (try dsimp only)) | (walk1 <;> (try dsimp only)) | (dsimp only; walk1) | (leave1; walk_say "STEP leave1"; try dsimp only) | fail "no step")
  refine' mid0 (h₀ := g') (L := L') (fun m nx => news = nx ∧ ∃ (u : Tok),
      m = lk [(Str.ofString "post", .int (-(j : Int)) t), (Str.ofString "pre", .int k tt), (Str.ofString "a", .str (S (a2.take (a2.length - j))) u1), (Str.ofString "b", .str (S (b2.take (b2.length - j))) u), (Str.ofString "max_cost", .int mc t3)]) ?lpG ?coG
  case lpG =>
    refine gen_post1 ?_
    intro MP hMP
    rcases Nat.eq_zero_or_pos j with hj | hj
    · rw [hj] at F2
      simp only [show (-((0 : Nat) : Int)) = 0 from rfl] at F2
      repeat' ((fail_if_success (with_reducible show LCg.CompSrc _ _ _ _ _ _ _ _ _ _ _ _ _ _)); (fail_if_success (with_reducible show LCg.CompEnd _ _ _ _ _ _ _ _ _ _ _ _ _ _)); (fail_if_success (with_reducible show InvPostR _ _ _ _ _ _ _ _)); (fail_if_success (with_reducible show Mid0 _ _ _ _ _ _)); (fail_if_success (with_reducible show WhileStep2 _ _ _ _ _ _ _ _)); (fail_if_success (with_reducible show InvPostN _ _ _ _ _ _ _ _ _)); (fail_if_success (with_reducible show wpAny _ _ (exec (Stmt.While _ _ _ _) _) _ _ _)); (fail_if_success (with_reducible show wpAny _ _ (exec (Stmt.For _ _ _ _ _) _) _ _ _)); first | (k_unfold; (try dsimp only)) | ((with_reducible refine hqk _ _ ?_); (try dsimp only)) | (walk1 <;> (try dsimp only)) | (dsimp only; walk1) | (leave1; walk_say "STEP leave1"; try dsimp only) | fail "no step")
      (rename Fr _ _ _ _ => F1); (rename News _ _ _ _ => N1)
      simp only [slice_nn] at F1
      refine' Mid0.to hMP F1 N1 ⟨rfl, ?uG, ?hmG⟩
      case hmG =>
        rw [hj]
        simp only [show (-((0 : Nat) : Int)) = 0 from rfl, Nat.sub_zero, List.take_length]
        (refine' feq [Str.ofString "post", Str.ofString "pre", Str.ofString "a", Str.ofString "b", Str.ofString "max_cost"] ?fqm ?fqo; (case fqm => (repeat' (first | exact List.forall_mem_nil _ | (refine List.forall_mem_cons.mpr ⟨by with_unfolding_all rfl, ?_⟩)))); (case fqo => (intro y hy; simp only [List.forall_mem_cons, List.not_mem_nil, false_implies, implies_true, and_true] at hy; have hy2 := hy; simp only [← beq_eq_false_iff_ne] at hy2; simp [hy, hy2, List.lookup_cons, lk, lkj, List.contains_cons, List.contains_nil])))
    · repeat' ((fail_if_success (with_reducible show LCg.CompSrc _ _ _ _ _ _ _ _ _ _ _ _ _ _)); (fail_if_success (with_reducible show LCg.CompEnd _ _ _ _ _ _ _ _ _ _ _ _ _ _)); (fail_if_success (with_reducible show InvPostR _ _ _ _ _ _ _ _)); (fail_if_success (with_reducible show Mid0 _ _ _ _ _ _)); (fail_if_success (with_reducible show WhileStep2 _ _ _ _ _ _ _ _)); (fail_if_success (with_reducible show InvPostN _ _ _ _ _ _ _ _ _)); (fail_if_success (with_reducible show wpAny _ _ (exec (Stmt.While _ _ _ _) _) _ _ _)); (fail_if_success (with_reducible show wpAny _ _ (exec (Stmt.For _ _ _ _ _) _) _ _ _)); first | (k_unfold; (try dsimp only)) | ((with_reducible refine hqk _ _ ?_); (try dsimp only)) | (walk1 <;> (try dsimp only)) | (dsimp only; walk1) | (leave1; walk_say "STEP leave1"; try dsimp only) | fail "no step")
      all_goals (try (exfalso; omega))
      (rename Fr _ _ _ _ => F1); (rename News _ _ _ _ => N1)
      simp only [slice_neg hj hk2] at F1
      refine' Mid0.to hMP F1 N1 ⟨rfl, ?uH, ?hmH⟩
      case hmH => (refine' feq [Str.ofString "post", Str.ofString "pre", Str.ofString "a", Str.ofString "b", Str.ofString "max_cost"] ?fqm ?fqo; (case fqm => (repeat' (first | exact List.forall_mem_nil _ | (refine List.forall_mem_cons.mpr ⟨by with_unfolding_all rfl, ?_⟩)))); (case fqo => (intro y hy; simp only [List.forall_mem_cons, List.not_mem_nil, false_implies, implies_true, and_true] at hy; have hy2 := hy; simp only [← beq_eq_false_iff_ne] at hy2; simp [hy, hy2, List.lookup_cons, lk, lkj, List.contains_cons, List.contains_nil])))
  clear F2 N2
  rintro h1 tk1 m1 nx ⟨rfl, u2, rfl⟩ F2 N2
  dsimp only
  have e1 : (a2.take (a2.length - j)).length ≤ 40 := by rw [List.length_take]; omega
  have e2 : (b2.take (b2.length - j)).length ≤ 40 := by rw [List.length_take]; omega
  have ea : ∀ c ∈ a2.take (a2.length - j), c < 128 := fun c hc => ca c (List.mem_of_mem_take hc)
  have eb : ∀ c ∈ b2.take (b2.length - j), c < 128 := fun c hc => cb c (List.mem_of_mem_take hc)
  generalize a2.take (a2.length - j) = a3 at *
  generalize b2.take (b2.length - j) = b3 at *
  clear hSa hSb hk1 hk2 c1 c2 ca cb hla' hlb' hp hR
  have hSa := S_len a3
  have hSb := S_len b3
  rename_i h1z0 tk1z1
  revert hSb; revert hSa; revert F2; revert hret; revert eb; revert e2; revert ea; revert e1; revert N2; revert az12; revert az6; revert hek; revert hqk; revert T'; revert X'; revert B'; revert FG'; revert hun; revert hdp; revert hTop; revert hNw; revert hIn; revert hBel
  revert b3; revert a3; revert u2; revert tk1; revert h1; revert u1
  exact HYP⟩
noncomputable def lev3_B : PySem.Tok × PySem.Heap × Nat × PySem.Tok × (List Nat) × (List Nat) → Prop := fun v => lev3_in.1 v.1 v.2.1 v.2.2.1 v.2.2.2.1 v.2.2.2.2.1 v.2.2.2.2.2
noncomputable def lev3_v : PySem.Tok × PySem.Heap × Nat × PySem.Tok × (List Nat) × (List Nat) := Classical.choose (drink ⟨(default, default, default, default, default, default)⟩ lev3_B)
theorem lev3_s : lev3_B lev3_v → ∀ v, lev3_B v := by
  with_unfolding_all exact Classical.choose_spec (drink ⟨(default, default, default, default, default, default)⟩ lev3_B)
namespace lev3K
noncomputable def u1 : PySem.Tok := lev3_v.1
noncomputable def h1 : PySem.Heap := lev3_v.2.1
noncomputable def tk1 : Nat := lev3_v.2.2.1
noncomputable def u2 : PySem.Tok := lev3_v.2.2.2.1
noncomputable def a3 : List Nat := lev3_v.2.2.2.2.1
noncomputable def b3 : List Nat := lev3_v.2.2.2.2.2
end lev3K
open Mine.levK in
open Mine.lev1K hiding t in
open Mine.lev2K hiding h1 tk1 u1 u2 in
open Mine.lev3K in
noncomputable def lev4_in : { PRED : PySem.Heap → Nat → (List Nat) → (List Nat) → PySem.Tok → PySem.Tok → Prop // (∀ (h1 : PySem.Heap) (tk1 : Nat) (x : List Nat) (y : List Nat) (v1 : PySem.Tok) (v2 : PySem.Tok), PRED h1 tk1 x y v1 v2) → lev3_in.1 lev3K.u1 lev3K.h1 lev3K.tk1 lev3K.u2 lev3K.a3 lev3K.b3 } :=
  ⟨_, fun HYP => by
  unfold lev3_in
  dsimp only
  k_fill
  intro hBel hIn hNw hTop hdp hun FG' B' X' T' hqk hek az6 az12 N2 e1 ea e2 eb hret F2 hSa hSb
  --CUT3
  repeat' ((fail_if_success (with_reducible show wpAny _ _ (exec _ _) _ _ _)); (fail_if_success (with_reducible show LCg.CompSrc _ _ _ _ _ _ _ _ _ _ _ _ _ _)); (fail_if_success (with_reducible show LCg.CompEnd _ _ _ _ _ _ _ _ _ _ _ _ _ _)); (fail_if_success (with_reducible show InvPostR _ _ _ _ _ _ _ _)); (fail_if_success (with_reducible show Mid0 _ _ _ _ _ _)); (fail_if_success (with_reducible show WhileStep2 _ _ _ _ _ _ _ _)); (fail_if_success (with_reducible show InvPostN _ _ _ _ _ _ _ _ _)); (fail_if_success (with_reducible show wpAny _ _ (exec (Stmt.While _ _ _ _) _) _ _ _)); (fail_if_success (with_reducible show wpAny _ _ (exec (Stmt.For _ _ _ _ _) _) _ _ _)); first | (k_unfold; (try dsimp only)) | ((with_reducible refine hqk _ _ ?_); (try dsimp only)) | (walk1 <;> (try dsimp only)) | (dsimp only; walk1) | (leave1; walk_say "STEP leave1"; try dsimp only) | fail "no step")
  walk1
  repeat' ((fail_if_success (with_reducible show wpAny _ _ (exec _ _) _ _ _)); (fail_if_success (with_reducible show LCg.CompSrc _ _ _ _ _ _ _ _ _ _ _ _ _ _)); (fail_if_success (with_reducible show LCg.CompEnd _ _ _ _ _ _ _ _ _ _ _ _ _ _)); (fail_if_success (with_reducible show InvPostR _ _ _ _ _ _ _ _)); (fail_if_success (with_reducible show Mid0 _ _ _ _ _ _)); (fail_if_success (with_reducible show WhileStep2 _ _ _ _ _ _ _ _)); (fail_if_success (with_reducible show InvPostN _ _ _ _ _ _ _ _ _)); (fail_if_success (with_reducible show wpAny _ _ (exec (Stmt.While _ _ _ _) _) _ _ _)); (fail_if_success (with_reducible show wpAny _ _ (exec (Stmt.For _ _ _ _ _) _) _ _ _)); first | (k_unfold; (try dsimp only)) | ((with_reducible refine hqk _ _ ?_); (try dsimp only)) | (walk1 <;> (try dsimp only)) | (dsimp only; walk1) | (leave1; walk_say "STEP leave1"; try dsimp only) | fail "no step")
  rotate_left
  · repeat' ((fail_if_success (with_reducible show LCg.CompSrc _ _ _ _ _ _ _ _ _ _ _ _ _ _)); (fail_if_success (with_reducible show LCg.CompEnd _ _ _ _ _ _ _ _ _ _ _ _ _ _)); (fail_if_success (with_reducible show InvPostR _ _ _ _ _ _ _ _)); (fail_if_success (with_reducible show Mid0 _ _ _ _ _ _)); (fail_if_success (with_reducible show WhileStep2 _ _ _ _ _ _ _ _)); (fail_if_success (with_reducible show InvPostN _ _ _ _ _ _ _ _ _)); (fail_if_success (with_reducible show wpAny _ _ (exec (Stmt.While _ _ _ _) _) _ _ _)); (fail_if_success (with_reducible show wpAny _ _ (exec (Stmt.For _ _ _ _ _) _) _ _ _)); first | (k_unfold; (try dsimp only)) | ((with_reducible refine hqk _ _ ?_); (try dsimp only)) | (walk1 <;> (try dsimp only)) | (dsimp only; walk1) | (leave1; walk_say "STEP leave1"; try dsimp only) | fail "no step")
    exact retI hret (levC_nil (by omega)) (by k_asm) (by k_asm)
  · repeat' ((fail_if_success (with_reducible show LCg.CompSrc _ _ _ _ _ _ _ _ _ _ _ _ _ _)); (fail_if_success (with_reducible show LCg.CompEnd _ _ _ _ _ _ _ _ _ _ _ _ _ _)); (fail_if_success (with_reducible show InvPostR _ _ _ _ _ _ _ _)); (fail_if_success (with_reducible show Mid0 _ _ _ _ _ _)); (fail_if_success (with_reducible show WhileStep2 _ _ _ _ _ _ _ _)); (fail_if_success (with_reducible show InvPostN _ _ _ _ _ _ _ _ _)); (fail_if_success (with_reducible show wpAny _ _ (exec (Stmt.While _ _ _ _) _) _ _ _)); (fail_if_success (with_reducible show wpAny _ _ (exec (Stmt.For _ _ _ _ _) _) _ _ _)); first | (k_unfold; (try dsimp only)) | ((with_reducible refine hqk _ _ ?_); (try dsimp only)) | (walk1 <;> (try dsimp only)) | (dsimp only; walk1) | (leave1; walk_say "STEP leave1"; try dsimp only) | fail "no step")
    exact retI hret (levC_nil (by omega)) (by k_asm) (by k_asm)
  walk1
  repeat' ((fail_if_success (with_reducible show wpAny _ _ (exec _ _) _ _ _)); (fail_if_success (with_reducible show LCg.CompSrc _ _ _ _ _ _ _ _ _ _ _ _ _ _)); (fail_if_success (with_reducible show LCg.CompEnd _ _ _ _ _ _ _ _ _ _ _ _ _ _)); (fail_if_success (with_reducible show InvPostR _ _ _ _ _ _ _ _)); (fail_if_success (with_reducible show Mid0 _ _ _ _ _ _)); (fail_if_success (with_reducible show WhileStep2 _ _ _ _ _ _ _ _)); (fail_if_success (with_reducible show InvPostN _ _ _ _ _ _ _ _ _)); (fail_if_success (with_reducible show wpAny _ _ (exec (Stmt.While _ _ _ _) _) _ _ _)); (fail_if_success (with_reducible show wpAny _ _ (exec (Stmt.For _ _ _ _ _) _) _ _ _)); first | (k_unfold; (try dsimp only)) | ((with_reducible refine hqk _ _ ?_); (try dsimp only)) | (walk1 <;> (try dsimp only)) | (dsimp only; walk1) | (leave1; walk_say "STEP leave1"; try dsimp only) | fail "no step")
  all_goals (try (exfalso; omega))
  refine' mid0 (h₀ := g') (L := L') (fun m nx => news = nx ∧ ∃ (x y : List Nat) (v1 v2 : Tok), levC a3 b3 mc = dp x y mc ∧ x.length ≤ y.length ∧ 0 < x.length ∧ y.length ≤ 40 ∧ (∀ c ∈ x, c < 128) ∧ (∀ c ∈ y, c < 128) ∧
      m = lk [(Str.ofString "post", .int (-(j : Int)) t), (Str.ofString "pre", .int k tt), (Str.ofString "a", .str (S x) v1), (Str.ofString "b", .str (S y) v2), (Str.ofString "max_cost", .int mc t3)]) ?lpI ?coI
  case lpI =>
    refine gen_post1 ?_
    intro MP hMP
    repeat' ((fail_if_success (with_reducible show LCg.CompSrc _ _ _ _ _ _ _ _ _ _ _ _ _ _)); (fail_if_success (with_reducible show LCg.CompEnd _ _ _ _ _ _ _ _ _ _ _ _ _ _)); (fail_if_success (with_reducible show InvPostR _ _ _ _ _ _ _ _)); (fail_if_success (with_reducible show Mid0 _ _ _ _ _ _)); (fail_if_success (with_reducible show WhileStep2 _ _ _ _ _ _ _ _)); (fail_if_success (with_reducible show InvPostN _ _ _ _ _ _ _ _ _)); (fail_if_success (with_reducible show wpAny _ _ (exec (Stmt.While _ _ _ _) _) _ _ _)); (fail_if_success (with_reducible show wpAny _ _ (exec (Stmt.For _ _ _ _ _) _) _ _ _)); first | (k_unfold; (try dsimp only)) | ((with_reducible refine hqk _ _ ?_); (try dsimp only)) | (walk1 <;> (try dsimp only)) | (dsimp only; walk1) | (leave1; walk_say "STEP leave1"; try dsimp only) | fail "no step")
    · (rename Fr _ _ _ _ => F1); (rename News _ _ _ _ => N1)
      refine' Mid0.to hMP F1 (News.tail' N1) ⟨rfl, b3, a3, ?v1I, ?v2I, ?_, by omega, by omega, by omega, eb, ea, ?hmI⟩
      case hmI => (refine' feq [Str.ofString "post", Str.ofString "pre", Str.ofString "a", Str.ofString "b", Str.ofString "max_cost"] ?fqm ?fqo; (case fqm => (repeat' (first | exact List.forall_mem_nil _ | (refine List.forall_mem_cons.mpr ⟨by with_unfolding_all rfl, ?_⟩)))); (case fqo => (intro y hy; simp only [List.forall_mem_cons, List.not_mem_nil, false_implies, implies_true, and_true] at hy; have hy2 := hy; simp only [← beq_eq_false_iff_ne] at hy2; simp [hy, hy2, List.lookup_cons, lk, lkj, List.contains_cons, List.contains_nil])))
      rw [levC_cons (by omega) (by omega), if_pos (by omega)]
    · (rename Fr _ _ _ _ => F1); (rename News _ _ _ _ => N1)
      refine' Mid0.to hMP F1 N1 ⟨rfl, a3, b3, ?v1J, ?v2J, ?_, by omega, by omega, by omega, ea, eb, ?hmJ⟩
      case hmJ => (refine' feq [Str.ofString "post", Str.ofString "pre", Str.ofString "a", Str.ofString "b", Str.ofString "max_cost"] ?fqm ?fqo; (case fqm => (repeat' (first | exact List.forall_mem_nil _ | (refine List.forall_mem_cons.mpr ⟨by with_unfolding_all rfl, ?_⟩)))); (case fqo => (intro y hy; simp only [List.forall_mem_cons, List.not_mem_nil, false_implies, implies_true, and_true] at hy; have hy2 := hy; simp only [← beq_eq_false_iff_ne] at hy2; simp [hy, hy2, List.lookup_cons, lk, lkj, List.contains_cons, List.contains_nil])))
      rw [levC_cons (by omega) (by omega), if_neg (by omega)]
  clear F2 N2
  rintro h1 tk1 m1 nx ⟨rfl, x, y, v1, v2, hR, hxy, hx0, hy40, hxc, hyc, rfl⟩ F2 N2
  dsimp only
  rw [hR] at hret
  clear hR hSa hSb e1 e2 ea eb
  have hSx := S_len x
  have hSy := S_len y
  rename_i az0 az1 tkz2 az3 az4
  revert hSy; revert hSx; revert N2; revert F2; revert hyc; revert hxc; revert hy40; revert hx0; revert hxy; revert hret; revert az4; revert az3; revert az1; revert az0; revert az12; revert az6; revert hek; revert hqk; revert T'; revert X'; revert B'; revert FG'; revert hun; revert hdp; revert hTop; revert hNw; revert hIn; revert hBel
  revert v2; revert v1; revert y; revert x; revert tk1; revert h1
  exact HYP⟩
noncomputable def lev4_B : PySem.Heap × Nat × (List Nat) × (List Nat) × PySem.Tok × PySem.Tok → Prop := fun v => lev4_in.1 v.1 v.2.1 v.2.2.1 v.2.2.2.1 v.2.2.2.2.1 v.2.2.2.2.2
noncomputable def lev4_v : PySem.Heap × Nat × (List Nat) × (List Nat) × PySem.Tok × PySem.Tok := Classical.choose (drink ⟨(default, default, default, default, default, default)⟩ lev4_B)
theorem lev4_s : lev4_B lev4_v → ∀ v, lev4_B v := by
  with_unfolding_all exact Classical.choose_spec (drink ⟨(default, default, default, default, default, default)⟩ lev4_B)
namespace lev4K
noncomputable def h1 : PySem.Heap := lev4_v.1
noncomputable def tk1 : Nat := lev4_v.2.1
noncomputable def x : List Nat := lev4_v.2.2.1
noncomputable def y : List Nat := lev4_v.2.2.2.1
noncomputable def v1 : PySem.Tok := lev4_v.2.2.2.2.1
noncomputable def v2 : PySem.Tok := lev4_v.2.2.2.2.2
end lev4K
open Mine.levK in
open Mine.lev1K hiding t in
open Mine.lev2K hiding h1 tk1 u1 u2 in
open Mine.lev3K hiding h1 tk1 in
open Mine.lev4K in
noncomputable def lev5_in : { PRED : Nat → PySem.Heap → PySem.Addr → (List PySem.Value) → Nat → Nat → PySem.Heap → Nat → PySem.Heap → Nat → PySem.Tok → PySem.Tok → PySem.Tok → Nat → PySem.Tok → PySem.Heap → Nat → (List (PySem.Addr × PySem.Obj)) → (List PySem.Value) → Nat → (List Int) → Int → PySem.Tok → (PySem.Str → Option PySem.Value) → (PySem.Flow → PySem.Shared → Prop) → Prop // (∀ (tkz0 : Nat) (hz1 : PySem.Heap) (R : PySem.Addr) (ys : List PySem.Value) (c' : Nat) (tkz10 : Nat) (hz11 : PySem.Heap) (tk : Nat) (hz14 : PySem.Heap) (tkz15 : Nat) (tz16 : PySem.Tok) (uz17 : PySem.Tok) (vz18 : PySem.Tok) (i : Nat) (ti : PySem.Tok) (h1 : PySem.Heap) (tk1 : Nat) (own : List (PySem.Addr × PySem.Obj)) (vs : List PySem.Value) (c : Nat) (row : List Int) (res : Int) (q1 : PySem.Tok) (u : PySem.Str → Option PySem.Value) (IP : PySem.Flow → PySem.Shared → Prop), PRED tkz0 hz1 R ys c' tkz10 hz11 tk hz14 tkz15 tz16 uz17 vz18 i ti h1 tk1 own vs c row res q1 u IP) → lev4_in.1 lev4K.h1 lev4K.tk1 lev4K.x lev4K.y lev4K.v1 lev4K.v2 } :=
  ⟨_, fun HYP => by
  unfold lev4_in
  dsimp only
  k_fill
  intro hBel hIn hNw hTop hdp hun FG' B' X' T' hqk hek az6 az12 az0 az1 az3 az4 hret hxy hx0 hy40 hxc hyc F2 N2 hSx hSy
  --CUT4
  repeat' ((fail_if_success (with_reducible show wpAny _ _ (exec _ _) _ _ _)); (fail_if_success (with_reducible show LCg.CompSrc _ _ _ _ _ _ _ _ _ _ _ _ _ _)); (fail_if_success (with_reducible show LCg.CompEnd _ _ _ _ _ _ _ _ _ _ _ _ _ _)); (fail_if_success (with_reducible show InvPostR _ _ _ _ _ _ _ _)); (fail_if_success (with_reducible show Mid0 _ _ _ _ _ _)); (fail_if_success (with_reducible show WhileStep2 _ _ _ _ _ _ _ _)); (fail_if_success (with_reducible show InvPostN _ _ _ _ _ _ _ _ _)); (fail_if_success (with_reducible show wpAny _ _ (exec (Stmt.While _ _ _ _) _) _ _ _)); (fail_if_success (with_reducible show wpAny _ _ (exec (Stmt.For _ _ _ _ _) _) _ _ _)); first | (k_unfold; (try dsimp only)) | ((with_reducible refine hqk _ _ ?_); (try dsimp only)) | (walk1 <;> (try dsimp only)) | (dsimp only; walk1) | (leave1; walk_say "STEP leave1"; try dsimp only) | fail "no step")
  walk1
  repeat' ((fail_if_success (with_reducible show wpAny _ _ (exec _ _) _ _ _)); (fail_if_success (with_reducible show LCg.CompSrc _ _ _ _ _ _ _ _ _ _ _ _ _ _)); (fail_if_success (with_reducible show LCg.CompEnd _ _ _ _ _ _ _ _ _ _ _ _ _ _)); (fail_if_success (with_reducible show InvPostR _ _ _ _ _ _ _ _)); (fail_if_success (with_reducible show Mid0 _ _ _ _ _ _)); (fail_if_success (with_reducible show WhileStep2 _ _ _ _ _ _ _ _)); (fail_if_success (with_reducible show InvPostN _ _ _ _ _ _ _ _ _)); (fail_if_success (with_reducible show wpAny _ _ (exec (Stmt.While _ _ _ _) _) _ _ _)); (fail_if_success (with_reducible show wpAny _ _ (exec (Stmt.For _ _ _ _ _) _) _ _ _)); first | (k_unfold; (try dsimp only)) | ((with_reducible refine hqk _ _ ?_); (try dsimp only)) | (walk1 <;> (try dsimp only)) | (dsimp only; walk1) | (leave1; walk_say "STEP leave1"; try dsimp only) | fail "no step")
  · repeat' ((fail_if_success (with_reducible show LCg.CompSrc _ _ _ _ _ _ _ _ _ _ _ _ _ _)); (fail_if_success (with_reducible show LCg.CompEnd _ _ _ _ _ _ _ _ _ _ _ _ _ _)); (fail_if_success (with_reducible show InvPostR _ _ _ _ _ _ _ _)); (fail_if_success (with_reducible show Mid0 _ _ _ _ _ _)); (fail_if_success (with_reducible show WhileStep2 _ _ _ _ _ _ _ _)); (fail_if_success (with_reducible show InvPostN _ _ _ _ _ _ _ _ _)); (fail_if_success (with_reducible show wpAny _ _ (exec (Stmt.While _ _ _ _) _) _ _ _)); (fail_if_success (with_reducible show wpAny _ _ (exec (Stmt.For _ _ _ _ _) _) _ _ _)); first | (k_unfold; (try dsimp only)) | ((with_reducible refine hqk _ _ ?_); (try dsimp only)) | (walk1 <;> (try dsimp only)) | (dsimp only; walk1) | (leave1; walk_say "STEP leave1"; try dsimp only) | fail "no step")
    exact retI hret (dp_over (by assumption)) (by k_asm) (by k_asm)
  rename ¬ mc < _ => hmc
  rw [dp_under hmc] at hret
  repeat' ((fail_if_success (with_reducible show LCg.CompSrc _ _ _ _ _ _ _ _ _ _ _ _ _ _)); (fail_if_success (with_reducible show LCg.CompEnd _ _ _ _ _ _ _ _ _ _ _ _ _ _)); (fail_if_success (with_reducible show InvPostR _ _ _ _ _ _ _ _)); (fail_if_success (with_reducible show Mid0 _ _ _ _ _ _)); (fail_if_success (with_reducible show WhileStep2 _ _ _ _ _ _ _ _)); (fail_if_success (with_reducible show InvPostN _ _ _ _ _ _ _ _ _)); (fail_if_success (with_reducible show wpAny _ _ (exec (Stmt.While _ _ _ _) _) _ _ _)); (fail_if_success (with_reducible show wpAny _ _ (exec (Stmt.For _ _ _ _ _) _) _ _ _)); first | (k_unfold; (try dsimp only)) | ((with_reducible refine hqk _ _ ?_); (try dsimp only)) | (walk1 <;> (try dsimp only)) | (dsimp only; walk1) | (leave1; walk_say "STEP leave1"; try dsimp only) | fail "no step")
  (rename Fr _ _ _ _ => F1); (rename News _ _ _ _ => N1)
  rw [row0_range] at iA
  have hrl : (row0 x).length = x.length := by simp [row0]
  (with_unfolding_all refine' For_invVF F1 ?fk1 ?fk2 ?_; (case fk1 => exact rfl); (case fk2 => exact rfl))
  repeat' ((fail_if_success (with_reducible show wpAny _ _ (pyIter _) _ _ _)); (fail_if_success (with_reducible show LCg.CompSrc _ _ _ _ _ _ _ _ _ _ _ _ _ _)); (fail_if_success (with_reducible show LCg.CompEnd _ _ _ _ _ _ _ _ _ _ _ _ _ _)); (fail_if_success (with_reducible show InvPostR _ _ _ _ _ _ _ _)); (fail_if_success (with_reducible show Mid0 _ _ _ _ _ _)); (fail_if_success (with_reducible show WhileStep2 _ _ _ _ _ _ _ _)); (fail_if_success (with_reducible show InvPostN _ _ _ _ _ _ _ _ _)); (fail_if_success (with_reducible show wpAny _ _ (exec (Stmt.While _ _ _ _) _) _ _ _)); (fail_if_success (with_reducible show wpAny _ _ (exec (Stmt.For _ _ _ _ _) _) _ _ _)); first | (k_unfold; (try dsimp only)) | ((with_reducible refine hqk _ _ ?_); (try dsimp only)) | (walk1 <;> (try dsimp only)) | (dsimp only; walk1) | (leave1; walk_say "STEP leave1"; try dsimp only) | fail "no step")
  (try clear F1); (try clear N1)
  (rename Fr _ _ _ _ => F1); (rename News _ _ _ _ => N1)
  rename IsRange _ _ _ _ _ _ _ _ => iR
  rw [hSy] at iR
  refine' range_inv0 (fun i m nx => ∃ (vs : List Value) (c : Nat) (row : List Int) (res : Int) (q1 : Tok) (u : Str → Option Value), nx = (R, listOf vs.toArray c) :: news ∧ IntsAre vs row ∧ row.length = x.length ∧
      outer x y mc (y.length - i) i row res = outer x y mc y.length 0 (row0 x) 0 ∧
      m = lkj [Str.ofString "bindex", Str.ofString "bchar", Str.ofString "distance", Str.ofString "minimum", Str.ofString "index", Str.ofString "substitute", Str.ofString "insert_delete"] u
        [(Str.ofString "post", .int (-(j : Int)) t), (Str.ofString "pre", .int k tt), (Str.ofString "a", .str (S x) v1), (Str.ofString "b", .str (S y) v2), (Str.ofString "max_cost", .int mc t3), (Str.ofString "row", .ref R), (Str.ofString "result", .int res q1)])
    rfl iR rfl (by omega) F1 N1 ⟨ys, c', row0 x, 0, ?q1K, _, rfl, iA, hrl, rfl, ?hmK⟩ ?tuK ?doK
  case hmK => (refine feqj [Str.ofString "bindex", Str.ofString "bchar", Str.ofString "distance", Str.ofString "minimum", Str.ofString "index", Str.ofString "substitute", Str.ofString "insert_delete"] [Str.ofString "post", Str.ofString "pre", Str.ofString "a", Str.ofString "b", Str.ofString "max_cost", Str.ofString "row", Str.ofString "result"] ?fjm ?fjj ?fjo; (case fjm => (repeat' (first | exact List.forall_mem_nil _ | (refine List.forall_mem_cons.mpr ⟨by with_unfolding_all rfl, ?_⟩)))); (case fjj => decide); (case fjo => (intro y hy hz; simp only [List.forall_mem_cons, List.not_mem_nil, false_implies, implies_true, and_true] at hy; simp only [List.contains_cons, List.contains_nil, Bool.or_false, Bool.or_eq_false_iff] at hz; have hy2 := hy; simp only [← beq_eq_false_iff_ne] at hy2; have hz2 := hz; simp only [beq_eq_false_iff_ne] at hz2; simp [hy, hy2, hz, hz2, List.lookup_cons, lk, lkj])))
  case doK =>
    clear F1 N1
    rintro m1 nx h1 tk1 ⟨vs, c, row, res, q1, u, rfl, iA, hlen, hO, rfl⟩ F1 N1
    repeat' ((fail_if_success (with_reducible show LCg.CompSrc _ _ _ _ _ _ _ _ _ _ _ _ _ _)); (fail_if_success (with_reducible show LCg.CompEnd _ _ _ _ _ _ _ _ _ _ _ _ _ _)); (fail_if_success (with_reducible show InvPostR _ _ _ _ _ _ _ _)); (fail_if_success (with_reducible show Mid0 _ _ _ _ _ _)); (fail_if_success (with_reducible show WhileStep2 _ _ _ _ _ _ _ _)); (fail_if_success (with_reducible show InvPostN _ _ _ _ _ _ _ _ _)); (fail_if_success (with_reducible show wpAny _ _ (exec (Stmt.While _ _ _ _) _) _ _ _)); (fail_if_success (with_reducible show wpAny _ _ (exec (Stmt.For _ _ _ _ _) _) _ _ _)); first | (k_unfold; (try dsimp only)) | ((with_reducible refine hqk _ _ ?_); (try dsimp only)) | (walk1 <;> (try dsimp only)) | (dsimp only; walk1) | (leave1; walk_say "STEP leave1"; try dsimp only) | fail "no step")
    have hO' : res = outer x y mc y.length 0 (row0 x) 0 := by rw [← hO, Nat.sub_self]; rfl
    exact retI hret hO' (by k_asm) (News.tail' (by k_asm))
  clear F1 N1
  rintro i ti m1 nx h1 tk1 own hi ha ho ⟨vs, c, row, res, q1, u, rfl, iA, hlen, hO, rfl⟩ F2 N2
  simp only [List.cons_append] at N2
  have F2 : Fr g' L' h1 _ := F2
  have N2 : News g' L' h1 _ := N2
  refine gen_post1 ?_
  intro IP hIP
  rename_i tkz0 hz1 tkz2 tz3 uz4 vz5 az6z tkz7 iAz8 hz9 tkz10 hz11 Fz12 Nz13 hz14 tkz15 tz16 uz17 vz18 az19 F2z20 N2z21
  revert hIP; revert N2; revert F2; revert N2z21; revert F2z20; revert hO; revert hlen; revert iA; revert ha; revert ho; revert hi; revert az19; revert iR; revert hrl; revert Nz13; revert Fz12; revert iAz8; revert lR; revert az6z; revert hmc; revert hSy; revert hSx; revert hyc; revert hxc; revert hy40; revert hx0; revert hxy; revert hret; revert az4; revert az3; revert az1; revert az0; revert az12; revert az6; revert hek; revert hqk; revert T'; revert X'; revert B'; revert FG'; revert hun; revert hdp; revert hTop; revert hNw; revert hIn; revert hBel
  revert IP; revert u; revert q1; revert res; revert row; revert c; revert vs; revert own; revert tk1; revert h1; revert ti; revert i; revert vz18; revert uz17; revert tz16; revert tkz15; revert hz14; revert tk; revert hz11; revert tkz10; revert c'; revert ys; revert R; revert hz1; revert tkz0
  exact HYP⟩
noncomputable def lev5_B : Nat × PySem.Heap × PySem.Addr × (List PySem.Value) × Nat × Nat × PySem.Heap × Nat × PySem.Heap × Nat × PySem.Tok × PySem.Tok × PySem.Tok × Nat × PySem.Tok × PySem.Heap × Nat × (List (PySem.Addr × PySem.Obj)) × (List PySem.Value) × Nat × (List Int) × Int × PySem.Tok × (PySem.Str → Option PySem.Value) × (PySem.Flow → PySem.Shared → Prop) → Prop := fun v => lev5_in.1 v.1 v.2.1 v.2.2.1 v.2.2.2.1 v.2.2.2.2.1 v.2.2.2.2.2.1 v.2.2.2.2.2.2.1 v.2.2.2.2.2.2.2.1 v.2.2.2.2.2.2.2.2.1 v.2.2.2.2.2.2.2.2.2.1 v.2.2.2.2.2.2.2.2.2.2.1 v.2.2.2.2.2.2.2.2.2.2.2.1 v.2.2.2.2.2.2.2.2.2.2.2.2.1 v.2.2.2.2.2.2.2.2.2.2.2.2.2.1 v.2.2.2.2.2.2.2.2.2.2.2.2.2.2.1 v.2.2.2.2.2.2.2.2.2.2.2.2.2.2.2.1 v.2.2.2.2.2.2.2.2.2.2.2.2.2.2.2.2.1 v.2.2.2.2.2.2.2.2.2.2.2.2.2.2.2.2.2.1 v.2.2.2.2.2.2.2.2.2.2.2.2.2.2.2.2.2.2.1 v.2.2.2.2.2.2.2.2.2.2.2.2.2.2.2.2.2.2.2.1 v.2.2.2.2.2.2.2.2.2.2.2.2.2.2.2.2.2.2.2.2.1 v.2.2.2.2.2.2.2.2.2.2.2.2.2.2.2.2.2.2.2.2.2.1 v.2.2.2.2.2.2.2.2.2.2.2.2.2.2.2.2.2.2.2.2.2.2.1 v.2.2.2.2.2.2.2.2.2.2.2.2.2.2.2.2.2.2.2.2.2.2.2.1 v.2.2.2.2.2.2.2.2.2.2.2.2.2.2.2.2.2.2.2.2.2.2.2.2
noncomputable def lev5_v : Nat × PySem.Heap × PySem.Addr × (List PySem.Value) × Nat × Nat × PySem.Heap × Nat × PySem.Heap × Nat × PySem.Tok × PySem.Tok × PySem.Tok × Nat × PySem.Tok × PySem.Heap × Nat × (List (PySem.Addr × PySem.Obj)) × (List PySem.Value) × Nat × (List Int) × Int × PySem.Tok × (PySem.Str → Option PySem.Value) × (PySem.Flow → PySem.Shared → Prop) := Classical.choose (drink ⟨(default, default, default, default, default, default, default, default, default, default, default, default, default, default, default, default, default, default, default, default, default, default, default, default, default)⟩ lev5_B)
theorem lev5_s : lev5_B lev5_v → ∀ v, lev5_B v := by
  with_unfolding_all exact Classical.choose_spec (drink ⟨(default, default, default, default, default, default, default, default, default, default, default, default, default, default, default, default, default, default, default, default, default, default, default, default, default)⟩ lev5_B)
namespace lev5K
noncomputable def tkz0 : Nat := lev5_v.1
noncomputable def hz1 : PySem.Heap := lev5_v.2.1
noncomputable def R : PySem.Addr := lev5_v.2.2.1
noncomputable def ys : List PySem.Value := lev5_v.2.2.2.1
noncomputable def c' : Nat := lev5_v.2.2.2.2.1
noncomputable def tkz10 : Nat := lev5_v.2.2.2.2.2.1
noncomputable def hz11 : PySem.Heap := lev5_v.2.2.2.2.2.2.1
noncomputable def tk : Nat := lev5_v.2.2.2.2.2.2.2.1
noncomputable def hz14 : PySem.Heap := lev5_v.2.2.2.2.2.2.2.2.1
noncomputable def tkz15 : Nat := lev5_v.2.2.2.2.2.2.2.2.2.1
noncomputable def tz16 : PySem.Tok := lev5_v.2.2.2.2.2.2.2.2.2.2.1
noncomputable def uz17 : PySem.Tok := lev5_v.2.2.2.2.2.2.2.2.2.2.2.1
noncomputable def vz18 : PySem.Tok := lev5_v.2.2.2.2.2.2.2.2.2.2.2.2.1
noncomputable def i : Nat := lev5_v.2.2.2.2.2.2.2.2.2.2.2.2.2.1
noncomputable def ti : PySem.Tok := lev5_v.2.2.2.2.2.2.2.2.2.2.2.2.2.2.1
noncomputable def h1 : PySem.Heap := lev5_v.2.2.2.2.2.2.2.2.2.2.2.2.2.2.2.1
noncomputable def tk1 : Nat := lev5_v.2.2.2.2.2.2.2.2.2.2.2.2.2.2.2.2.1
noncomputable def own : List (PySem.Addr × PySem.Obj) := lev5_v.2.2.2.2.2.2.2.2.2.2.2.2.2.2.2.2.2.1
noncomputable def vs : List PySem.Value := lev5_v.2.2.2.2.2.2.2.2.2.2.2.2.2.2.2.2.2.2.1
noncomputable def c : Nat := lev5_v.2.2.2.2.2.2.2.2.2.2.2.2.2.2.2.2.2.2.2.1
noncomputable def row : List Int := lev5_v.2.2.2.2.2.2.2.2.2.2.2.2.2.2.2.2.2.2.2.2.1
noncomputable def res : Int := lev5_v.2.2.2.2.2.2.2.2.2.2.2.2.2.2.2.2.2.2.2.2.2.1
noncomputable def q1 : PySem.Tok := lev5_v.2.2.2.2.2.2.2.2.2.2.2.2.2.2.2.2.2.2.2.2.2.2.1
noncomputable def u : PySem.Str → Option PySem.Value := lev5_v.2.2.2.2.2.2.2.2.2.2.2.2.2.2.2.2.2.2.2.2.2.2.2.1
noncomputable def IP : PySem.Flow → PySem.Shared → Prop := lev5_v.2.2.2.2.2.2.2.2.2.2.2.2.2.2.2.2.2.2.2.2.2.2.2.2
end lev5K
open Mine.levK in
open Mine.lev1K hiding t tk in
open Mine.lev2K hiding h1 tk1 u1 u2 in
open Mine.lev3K hiding h1 tk1 in
open Mine.lev4K hiding h1 tk1 in
open Mine.lev5K in
noncomputable def lev6_in : { PRED : Nat → Nat → PySem.Heap → Nat → (PySem.Flow → PySem.Shared → Prop) → PySem.Heap → Nat → PySem.Tok → PySem.Tok → PySem.Tok → Nat → PySem.Tok → PySem.Heap → Nat → (List (PySem.Addr × PySem.Obj)) → (List PySem.Value) → Nat → PySem.Tok → PySem.Tok → PySem.Tok → (PySem.Str → Option PySem.Value) → (PySem.Flow → PySem.Shared → Prop) → (List Int × Int × Int × Int) → Prop // (∀ (tkz3 : Nat) (tkz6 : Nat) (hz7 : PySem.Heap) (tk : Nat) (MP : PySem.Flow → PySem.Shared → Prop) (hz10 : PySem.Heap) (tkz11 : Nat) (tz12 : PySem.Tok) (uz13 : PySem.Tok) (vz14 : PySem.Tok) (kk : Nat) (tk' : PySem.Tok) (h1 : PySem.Heap) (tk1 : Nat) (own2 : List (PySem.Addr × PySem.Obj)) (vs : List PySem.Value) (c : Nat) (q1 : PySem.Tok) (q3 : PySem.Tok) (q4 : PySem.Tok) (u : PySem.Str → Option PySem.Value) (IP2 : PySem.Flow → PySem.Shared → Prop) (st : List Int × Int × Int × Int), PRED tkz3 tkz6 hz7 tk MP hz10 tkz11 tz12 uz13 vz14 kk tk' h1 tk1 own2 vs c q1 q3 q4 u IP2 st) → lev5_in.1 lev5K.tkz0 lev5K.hz1 lev5K.R lev5K.ys lev5K.c' lev5K.tkz10 lev5K.hz11 lev5K.tk lev5K.hz14 lev5K.tkz15 lev5K.tz16 lev5K.uz17 lev5K.vz18 lev5K.i lev5K.ti lev5K.h1 lev5K.tk1 lev5K.own lev5K.vs lev5K.c lev5K.row lev5K.res lev5K.q1 lev5K.u lev5K.IP } :=
  ⟨_, fun HYP => by
  unfold lev5_in
  dsimp only
  k_fill
  intro hBel hIn hNw hTop hdp hun FG' B' X' T' hqk hek az6 az12 az0 az1 az3 az4 hret hxy hx0 hy40 hxc hyc hSx hSy hmc az6z lR iAz8 Fz12 Nz13 hrl iR az19 hi ho ha iA hlen hO F2z20 N2z21 F2 N2 hIP
  --CUT5
  repeat' ((fail_if_success (with_reducible show LCg.CompSrc _ _ _ _ _ _ _ _ _ _ _ _ _ _)); (fail_if_success (with_reducible show LCg.CompEnd _ _ _ _ _ _ _ _ _ _ _ _ _ _)); (fail_if_success (with_reducible show InvPostR _ _ _ _ _ _ _ _)); (fail_if_success (with_reducible show Mid0 _ _ _ _ _ _)); (fail_if_success (with_reducible show WhileStep2 _ _ _ _ _ _ _ _)); (fail_if_success (with_reducible show InvPostN _ _ _ _ _ _ _ _ _)); (fail_if_success (with_reducible show wpAny _ _ (exec (Stmt.While _ _ _ _) _) _ _ _)); (fail_if_success (with_reducible show wpAny _ _ (exec (Stmt.For _ _ _ _ _) _) _ _ _)); first | (k_unfold; (try dsimp only)) | ((with_reducible refine hqk _ _ ?_); (try dsimp only)) | (walk1 <;> (try dsimp only)) | (dsimp only; walk1) | (leave1; walk_say "STEP leave1"; try dsimp only) | fail "no step")
  (try clear F2)
  (rename Fr _ _ _ _ => F1); (rename News _ _ _ _ => N1)
  rw [item_at hi] at F1
  have hoff : ∀ p ∈ news ++ own, p.1 ≠ R := by
    intro p hp
    rcases List.mem_append.mp hp with hp | hp
    · exact Nat.ne_of_lt (lR p hp)
    · exact ho p hp R (List.Mem.head _)
  refine' mid0 (h₀ := g') (L := L') (fun m nx => ∃ (vs : List Value) (c : Nat) (q1 q2 q3 q4 q5 : Tok) (u : Str → Option Value), nx = (R, listOf vs.toArray c) :: (news ++ own) ∧ IntsAre vs (inner y[i] x row ((i : Int) * 2)).1 ∧
      m = lkj [Str.ofString "index", Str.ofString "substitute", Str.ofString "insert_delete"] u
        [(Str.ofString "bindex", .int i ti), (Str.ofString "bchar", .str (S [y[i]]) q2), (Str.ofString "distance", .int (inner y[i] x row ((i : Int) * 2)).2.1 q3), (Str.ofString "minimum", .int (inner y[i] x row ((i : Int) * 2)).2.2.2 q4), (Str.ofString "post", .int (-(j : Int)) t), (Str.ofString "pre", .int k tt), (Str.ofString "a", .str (S x) v1), (Str.ofString "b", .str (S y) v2), (Str.ofString "max_cost", .int mc t3), (Str.ofString "row", .ref R), (Str.ofString "result", .int (inner y[i] x row ((i : Int) * 2)).2.2.1 q1)]) ?lpM ?coM
  case lpM =>
    refine gen_post1 ?_
    intro MP hMP
    (with_unfolding_all refine' For_invVF F1 ?gk1 ?gk2 ?_; (case gk1 => exact rfl); (case gk2 => exact rfl))
    repeat' ((fail_if_success (with_reducible show wpAny _ _ (pyIter _) _ _ _)); (fail_if_success (with_reducible show LCg.CompSrc _ _ _ _ _ _ _ _ _ _ _ _ _ _)); (fail_if_success (with_reducible show LCg.CompEnd _ _ _ _ _ _ _ _ _ _ _ _ _ _)); (fail_if_success (with_reducible show InvPostR _ _ _ _ _ _ _ _)); (fail_if_success (with_reducible show Mid0 _ _ _ _ _ _)); (fail_if_success (with_reducible show WhileStep2 _ _ _ _ _ _ _ _)); (fail_if_success (with_reducible show InvPostN _ _ _ _ _ _ _ _ _)); (fail_if_success (with_reducible show wpAny _ _ (exec (Stmt.While _ _ _ _) _) _ _ _)); (fail_if_success (with_reducible show wpAny _ _ (exec (Stmt.For _ _ _ _ _) _) _ _ _)); first | (k_unfold; (try dsimp only)) | ((with_reducible refine hqk _ _ ?_); (try dsimp only)) | (walk1 <;> (try dsimp only)) | (dsimp only; walk1) | (leave1; walk_say "STEP leave1"; try dsimp only) | fail "no step")
    (try clear F1); (try clear N1)
    (rename Fr _ _ _ _ => F1); (rename News _ _ _ _ => N1)
    rename IsRange _ _ _ _ _ _ _ _ => iR2
    rw [hSx] at iR2
    refine' range_inv0 (fun k' m nx => ∃ (vs : List Value) (c : Nat) (q1 q3 q4 : Tok) (u : Str → Option Value), nx = (R, listOf vs.toArray c) :: (news ++ own) ∧ IntsAre vs (stAt y[i] x row ((i : Int) * 2) k').1 ∧
      m = lkj [Str.ofString "index", Str.ofString "substitute", Str.ofString "insert_delete"] u
        [(Str.ofString "bindex", .int i ti), (Str.ofString "bchar", .str (S [y[i]]) ?q2K), (Str.ofString "distance", .int (stAt y[i] x row ((i : Int) * 2) k').2.1 q3), (Str.ofString "minimum", .int (stAt y[i] x row ((i : Int) * 2) k').2.2.2 q4), (Str.ofString "post", .int (-(j : Int)) t), (Str.ofString "pre", .int k tt), (Str.ofString "a", .str (S x) v1), (Str.ofString "b", .str (S y) v2), (Str.ofString "max_cost", .int mc t3), (Str.ofString "row", .ref R), (Str.ofString "result", .int (stAt y[i] x row ((i : Int) * 2) k').2.2.1 q1)])
      rfl iR2 rfl (by omega) F1 N1 ⟨vs, c, ?q1L, ?q3L, ?q4L, _, rfl, iA, ?hmL⟩ ?tuL ?doL
    case hmL => (refine feqj [Str.ofString "index", Str.ofString "substitute", Str.ofString "insert_delete"] [Str.ofString "bindex", Str.ofString "bchar", Str.ofString "distance", Str.ofString "minimum", Str.ofString "post", Str.ofString "pre", Str.ofString "a", Str.ofString "b", Str.ofString "max_cost", Str.ofString "row", Str.ofString "result"] ?fjm ?fjj ?fjo; (case fjm => (repeat' (first | exact List.forall_mem_nil _ | (refine List.forall_mem_cons.mpr ⟨by with_unfolding_all rfl, ?_⟩)))); (case fjj => decide); (case fjo => (intro y hy hz; simp only [List.forall_mem_cons, List.not_mem_nil, false_implies, implies_true, and_true] at hy; simp only [List.contains_cons, List.contains_nil, Bool.or_false, Bool.or_eq_false_iff] at hz; have hy2 := hy; simp only [← beq_eq_false_iff_ne] at hy2; have hz2 := hz; simp only [beq_eq_false_iff_ne] at hz2; simp [hy, hy2, hz, hz2, List.lookup_cons, lk, lkj])))
    case doL =>
      clear F1 N1
      rintro m1 nx h1 tk1 ⟨vs, c, q1, q3, q4, u, rfl, iA, rfl⟩ F1 N1
      exact Mid0.to hMP F1 N1 ⟨vs, c, q1, _, q3, q4, 0, u, rfl, iA, rfl⟩
    clear F1 N1
    rintro kk tk' m1 nx h1 tk1 own2 hkk ha2 ho2 ⟨vs, c, q1, q3, q4, u, rfl, iA, rfl⟩ F2 N2
    simp only [List.cons_append] at N2
    have F2 : Fr g' L' h1 _ := F2
    have N2 : News g' L' h1 _ := N2
    refine gen_post1 ?_
    intro IP2 hIP2
    have hll := stAt_len y[i] x row ((i : Int) * 2) kk
    have hoff2 : ∀ p ∈ news ++ own ++ own2, p.1 ≠ R := by
      intro p hp
      rcases List.mem_append.mp hp with hp | hp
      · exact hoff p hp
      · exact ho2 p hp R (List.Mem.head _)
    have hyi : y[i] < 128 := hyc _ (List.getElem_mem hi)
    have hS1 := stAt_succ y[i] x row ((i : Int) * 2) kk
    generalize stAt y[i] x row ((i : Int) * 2) kk = st at *
    rename_i iAz0 az1z hz2 tkz3 hz4 hz5 tkz6 hz7 Fz8 Nz9 hz10 tkz11 tz12 uz13 vz14 az15 N2z16 F2z17
    revert hS1; revert hll; revert F2; revert F2z17; revert iA; revert hyi; revert hoff2; revert hIP2; revert N2; revert N2z16; revert ha2; revert ho2; revert hkk; revert az15; revert iR2; revert hMP; revert hoff; revert Nz9; revert Fz8; revert az1z; revert hIP; revert N2z21; revert F2z20; revert hO; revert hlen; revert iAz0; revert ha; revert ho; revert hi; revert az19; revert iR; revert hrl; revert iAz8; revert lR; revert az6z; revert hmc; revert hSy; revert hSx; revert hyc; revert hxc; revert hy40; revert hx0; revert hxy; revert hret; revert az4; revert az3; revert az1; revert az0; revert az12; revert az6; revert hek; revert hqk; revert T'; revert X'; revert B'; revert FG'; revert hun; revert hdp; revert hTop; revert hNw; revert hIn; revert hBel
    revert st; revert IP2; revert u; revert q4; revert q3; revert q1; revert c; revert vs; revert own2; revert tk1; revert h1; revert tk'; revert kk; revert vz14; revert uz13; revert tz12; revert tkz11; revert hz10; revert MP; revert tk; revert hz7; revert tkz6; revert tkz3
    exact HYP
  clear F1 N1
  rintro h1 tk1 m1 nx ⟨vs, c, q1, q2, q3, q4, q5, u, rfl, iA, rfl⟩ F2 N2
  dsimp only
  repeat' ((fail_if_success (with_reducible show LCg.CompSrc _ _ _ _ _ _ _ _ _ _ _ _ _ _)); (fail_if_success (with_reducible show LCg.CompEnd _ _ _ _ _ _ _ _ _ _ _ _ _ _)); (fail_if_success (with_reducible show InvPostR _ _ _ _ _ _ _ _)); (fail_if_success (with_reducible show Mid0 _ _ _ _ _ _)); (fail_if_success (with_reducible show WhileStep2 _ _ _ _ _ _ _ _)); (fail_if_success (with_reducible show InvPostN _ _ _ _ _ _ _ _ _)); (fail_if_success (with_reducible show wpAny _ _ (exec (Stmt.While _ _ _ _) _) _ _ _)); (fail_if_success (with_reducible show wpAny _ _ (exec (Stmt.For _ _ _ _ _) _) _ _ _)); first | (k_unfold; (try dsimp only)) | ((with_reducible refine hqk _ _ ?_); (try dsimp only)) | (walk1 <;> (try dsimp only)) | (dsimp only; walk1) | (leave1; walk_say "STEP leave1"; try dsimp only) | fail "no step")
  · rename mc < _ => hlt
    refine hIP _ _ ?_
    dsimp only [InvPostN]
    repeat' ((fail_if_success (with_reducible show LCg.CompSrc _ _ _ _ _ _ _ _ _ _ _ _ _ _)); (fail_if_success (with_reducible show LCg.CompEnd _ _ _ _ _ _ _ _ _ _ _ _ _ _)); (fail_if_success (with_reducible show InvPostR _ _ _ _ _ _ _ _)); (fail_if_success (with_reducible show Mid0 _ _ _ _ _ _)); (fail_if_success (with_reducible show WhileStep2 _ _ _ _ _ _ _ _)); (fail_if_success (with_reducible show InvPostN _ _ _ _ _ _ _ _ _)); (fail_if_success (with_reducible show wpAny _ _ (exec (Stmt.While _ _ _ _) _) _ _ _)); (fail_if_success (with_reducible show wpAny _ _ (exec (Stmt.For _ _ _ _ _) _) _ _ _)); first | (k_unfold; (try dsimp only)) | ((with_reducible refine hqk _ _ ?_); (try dsimp only)) | (walk1 <;> (try dsimp only)) | (dsimp only; walk1) | (leave1; walk_say "STEP leave1"; try dsimp only) | fail "no step")
    exact retI hret ((outer_hi hi hlt).trans hO) (by k_asm) (news_mid (by k_asm))
  · (rename Fr _ _ _ _ => F1); (rename News _ _ _ _ => N1)
    rename ¬ mc < _ => hlt
    refine' hIP _ _ (InvEndN.intro (nx := (R, _) :: news) F1 N1 ⟨_, c, _, _, ?qaO, ?uuO, rfl, iA, ?hlO, (outer_lo hi hlt).trans hO, ?hmO⟩ rfl ?hnO ?hoO)
    case hmO => (refine feqj [Str.ofString "bindex", Str.ofString "bchar", Str.ofString "distance", Str.ofString "minimum", Str.ofString "index", Str.ofString "substitute", Str.ofString "insert_delete"] [Str.ofString "post", Str.ofString "pre", Str.ofString "a", Str.ofString "b", Str.ofString "max_cost", Str.ofString "row", Str.ofString "result"] ?fjm ?fjj ?fjo; (case fjm => (repeat' (first | exact List.forall_mem_nil _ | (refine List.forall_mem_cons.mpr ⟨by with_unfolding_all rfl, ?_⟩)))); (case fjj => decide); (case fjo => (intro y hy hz; simp only [List.forall_mem_cons, List.not_mem_nil, false_implies, implies_true, and_true] at hy; simp only [List.contains_cons, List.contains_nil, Bool.or_false, Bool.or_eq_false_iff] at hz; have hy2 := hy; simp only [← beq_eq_false_iff_ne] at hy2; have hz2 := hz; simp only [beq_eq_false_iff_ne] at hz2; simp [hy, hy2, hz, hz2, List.lookup_cons, lk, lkj])))
    case hlO => rw [inner_eq, stAt_len]; exact hlen
    case hnO =>
      intro p hp
      rcases List.mem_cons.mp hp with rfl | hp
      · exact List.Mem.head _
      · exact List.Mem.tail _ (List.mem_append_left _ hp)
    case hoO => exact fun p hp => List.Mem.tail _ (List.mem_append_right _ hp)⟩
noncomputable def lev6_B : Nat × Nat × PySem.Heap × Nat × (PySem.Flow → PySem.Shared → Prop) × PySem.Heap × Nat × PySem.Tok × PySem.Tok × PySem.Tok × Nat × PySem.Tok × PySem.Heap × Nat × (List (PySem.Addr × PySem.Obj)) × (List PySem.Value) × Nat × PySem.Tok × PySem.Tok × PySem.Tok × (PySem.Str → Option PySem.Value) × (PySem.Flow → PySem.Shared → Prop) × (List Int × Int × Int × Int) → Prop := fun v => lev6_in.1 v.1 v.2.1 v.2.2.1 v.2.2.2.1 v.2.2.2.2.1 v.2.2.2.2.2.1 v.2.2.2.2.2.2.1 v.2.2.2.2.2.2.2.1 v.2.2.2.2.2.2.2.2.1 v.2.2.2.2.2.2.2.2.2.1 v.2.2.2.2.2.2.2.2.2.2.1 v.2.2.2.2.2.2.2.2.2.2.2.1 v.2.2.2.2.2.2.2.2.2.2.2.2.1 v.2.2.2.2.2.2.2.2.2.2.2.2.2.1 v.2.2.2.2.2.2.2.2.2.2.2.2.2.2.1 v.2.2.2.2.2.2.2.2.2.2.2.2.2.2.2.1 v.2.2.2.2.2.2.2.2.2.2.2.2.2.2.2.2.1 v.2.2.2.2.2.2.2.2.2.2.2.2.2.2.2.2.2.1 v.2.2.2.2.2.2.2.2.2.2.2.2.2.2.2.2.2.2.1 v.2.2.2.2.2.2.2.2.2.2.2.2.2.2.2.2.2.2.2.1 v.2.2.2.2.2.2.2.2.2.2.2.2.2.2.2.2.2.2.2.2.1 v.2.2.2.2.2.2.2.2.2.2.2.2.2.2.2.2.2.2.2.2.2.1 v.2.2.2.2.2.2.2.2.2.2.2.2.2.2.2.2.2.2.2.2.2.2
noncomputable def lev6_v : Nat × Nat × PySem.Heap × Nat × (PySem.Flow → PySem.Shared → Prop) × PySem.Heap × Nat × PySem.Tok × PySem.Tok × PySem.Tok × Nat × PySem.Tok × PySem.Heap × Nat × (List (PySem.Addr × PySem.Obj)) × (List PySem.Value) × Nat × PySem.Tok × PySem.Tok × PySem.Tok × (PySem.Str → Option PySem.Value) × (PySem.Flow → PySem.Shared → Prop) × (List Int × Int × Int × Int) := Classical.choose (drink ⟨(default, default, default, default, default, default, default, default, default, default, default, default, default, default, default, default, default, default, default, default, default, default, default)⟩ lev6_B)
theorem lev6_s : lev6_B lev6_v → ∀ v, lev6_B v := by
  with_unfolding_all exact Classical.choose_spec (drink ⟨(default, default, default, default, default, default, default, default, default, default, default, default, default, default, default, default, default, default, default, default, default, default, default)⟩ lev6_B)
namespace lev6K
noncomputable def tkz3 : Nat := lev6_v.1
noncomputable def tkz6 : Nat := lev6_v.2.1
noncomputable def hz7 : PySem.Heap := lev6_v.2.2.1
noncomputable def tk : Nat := lev6_v.2.2.2.1
noncomputable def MP : PySem.Flow → PySem.Shared → Prop := lev6_v.2.2.2.2.1
noncomputable def hz10 : PySem.Heap := lev6_v.2.2.2.2.2.1
noncomputable def tkz11 : Nat := lev6_v.2.2.2.2.2.2.1
noncomputable def tz12 : PySem.Tok := lev6_v.2.2.2.2.2.2.2.1
noncomputable def uz13 : PySem.Tok := lev6_v.2.2.2.2.2.2.2.2.1
noncomputable def vz14 : PySem.Tok := lev6_v.2.2.2.2.2.2.2.2.2.1
noncomputable def kk : Nat := lev6_v.2.2.2.2.2.2.2.2.2.2.1
noncomputable def tk' : PySem.Tok := lev6_v.2.2.2.2.2.2.2.2.2.2.2.1
noncomputable def h1 : PySem.Heap := lev6_v.2.2.2.2.2.2.2.2.2.2.2.2.1
noncomputable def tk1 : Nat := lev6_v.2.2.2.2.2.2.2.2.2.2.2.2.2.1
noncomputable def own2 : List (PySem.Addr × PySem.Obj) := lev6_v.2.2.2.2.2.2.2.2.2.2.2.2.2.2.1
noncomputable def vs : List PySem.Value := lev6_v.2.2.2.2.2.2.2.2.2.2.2.2.2.2.2.1
noncomputable def c : Nat := lev6_v.2.2.2.2.2.2.2.2.2.2.2.2.2.2.2.2.1
noncomputable def q1 : PySem.Tok := lev6_v.2.2.2.2.2.2.2.2.2.2.2.2.2.2.2.2.2.1
noncomputable def q3 : PySem.Tok := lev6_v.2.2.2.2.2.2.2.2.2.2.2.2.2.2.2.2.2.2.1
noncomputable def q4 : PySem.Tok := lev6_v.2.2.2.2.2.2.2.2.2.2.2.2.2.2.2.2.2.2.2.1
noncomputable def u : PySem.Str → Option PySem.Value := lev6_v.2.2.2.2.2.2.2.2.2.2.2.2.2.2.2.2.2.2.2.2.1
noncomputable def IP2 : PySem.Flow → PySem.Shared → Prop := lev6_v.2.2.2.2.2.2.2.2.2.2.2.2.2.2.2.2.2.2.2.2.2.1
noncomputable def st : List Int × Int × Int × Int := lev6_v.2.2.2.2.2.2.2.2.2.2.2.2.2.2.2.2.2.2.2.2.2.2
end lev6K
open Mine.levK in
open Mine.lev1K hiding t tk in
open Mine.lev2K hiding h1 tk1 u1 u2 in
open Mine.lev3K hiding h1 tk1 in
open Mine.lev4K hiding h1 tk1 in
open Mine.lev5K hiding c h1 q1 tk tk1 u vs in
open Mine.lev6K in
theorem lev6_c : lev6_in.1 lev6K.tkz3 lev6K.tkz6 lev6K.hz7 lev6K.tk lev6K.MP lev6K.hz10 lev6K.tkz11 lev6K.tz12 lev6K.uz13 lev6K.vz14 lev6K.kk lev6K.tk' lev6K.h1 lev6K.tk1 lev6K.own2 lev6K.vs lev6K.c lev6K.q1 lev6K.q3 lev6K.q4 lev6K.u lev6K.IP2 lev6K.st := by
  unfold lev6_in
  dsimp only
  k_fill
  intro hBel hIn hNw hTop hdp hun FG' B' X' T' hqk hek az6 az12 az0 az1 az3 az4 hret hxy hx0 hy40 hxc hyc hSx hSy hmc az6z lR iAz8 hrl iR az19 hi ho ha iAz0 hlen hO F2z20 N2z21 hIP az1z Fz8 Nz9 hoff hMP iR2 az15 hkk ho2 ha2 N2z16 N2 hIP2 hoff2 hyi iA F2z17 F2 hll hS1
  --CUT6
  repeat' ((fail_if_success (with_reducible show wpAny _ _ (call (Value.ref _) _) _ _ _)); (fail_if_success (with_reducible show LCg.CompSrc _ _ _ _ _ _ _ _ _ _ _ _ _ _)); (fail_if_success (with_reducible show LCg.CompEnd _ _ _ _ _ _ _ _ _ _ _ _ _ _)); (fail_if_success (with_reducible show InvPostR _ _ _ _ _ _ _ _)); (fail_if_success (with_reducible show Mid0 _ _ _ _ _ _)); (fail_if_success (with_reducible show WhileStep2 _ _ _ _ _ _ _ _)); (fail_if_success (with_reducible show InvPostN _ _ _ _ _ _ _ _ _)); (fail_if_success (with_reducible show wpAny _ _ (exec (Stmt.While _ _ _ _) _) _ _ _)); (fail_if_success (with_reducible show wpAny _ _ (exec (Stmt.For _ _ _ _ _) _) _ _ _)); first | (k_unfold; (try dsimp only)) | ((with_reducible refine hqk _ _ ?_); (try dsimp only)) | (walk1 <;> (try dsimp only)) | (dsimp only; walk1) | (leave1; walk_say "STEP leave1"; try dsimp only) | fail "no step")
  refine' spc_use (subst_item _ _ _ _ _ _ _ _ _ _ ?a1 ?a2 ?a3) ?k1 ?k2 ?k3 ?k4 ?k5 ?k6 ?k7 ?k8 ?_
  (case k1 | k2 | k3 | k4 | k5 => k_asm); (case k6 => first | exact rfl | assumption); (case k7 => ktr_room); (case k8 => ktr_units)
  (case a1 | a2 | a3 => assumption)
  dsimp only [RetV]
  intro tS hS kS FS NS
  repeat' ((fail_if_success (with_reducible show LCg.CompSrc _ _ _ _ _ _ _ _ _ _ _ _ _ _)); (fail_if_success (with_reducible show LCg.CompEnd _ _ _ _ _ _ _ _ _ _ _ _ _ _)); (fail_if_success (with_reducible show InvPostR _ _ _ _ _ _ _ _)); (fail_if_success (with_reducible show Mid0 _ _ _ _ _ _)); (fail_if_success (with_reducible show WhileStep2 _ _ _ _ _ _ _ _)); (fail_if_success (with_reducible show InvPostN _ _ _ _ _ _ _ _ _)); (fail_if_success (with_reducible show wpAny _ _ (exec (Stmt.While _ _ _ _) _) _ _ _)); (fail_if_success (with_reducible show wpAny _ _ (exec (Stmt.For _ _ _ _ _) _) _ _ _)); first | (k_unfold; (try dsimp only)) | ((with_reducible refine hqk _ _ ?_); (try dsimp only)) | (walk1 <;> (try dsimp only)) | (dsimp only; walk1) | (leave1; walk_say "STEP leave1"; try dsimp only) | fail "no step")
  · (rename Fr _ _ _ _ => F1); (rename News _ _ _ _ => N1)
    rename IntsAre _ _ => iB
    rename (_ : Int) < st.snd.snd.snd => hlt
    simp only [Int.toNat_natCast] at iB F1 N1 hlt
    have e4 : (istep y[i] x st kk).2.2.2 = _ := if_pos hlt
    refine' hIP2 _ _ (InvEndN.intro (nx := (R, _) :: (news ++ own)) F1 N1 ⟨_, c, ?qaM, ?qbM, ?qcM, ?uuM, rfl, ia_cast iB (by rw [hS1]; rfl), ?hmM⟩ rfl ?hnM ?hoM)
    case hmM =>
      rw [hS1, e4]
      (refine feqj [Str.ofString "index", Str.ofString "substitute", Str.ofString "insert_delete"] [Str.ofString "bindex", Str.ofString "bchar", Str.ofString "distance", Str.ofString "minimum", Str.ofString "post", Str.ofString "pre", Str.ofString "a", Str.ofString "b", Str.ofString "max_cost", Str.ofString "row", Str.ofString "result"] ?fjm ?fjj ?fjo; (case fjm => (repeat' (first | exact List.forall_mem_nil _ | (refine List.forall_mem_cons.mpr ⟨by with_unfolding_all rfl, ?_⟩)))); (case fjj => decide); (case fjo => (intro y hy hz; simp only [List.forall_mem_cons, List.not_mem_nil, false_implies, implies_true, and_true] at hy; simp only [List.contains_cons, List.contains_nil, Bool.or_false, Bool.or_eq_false_iff] at hz; have hy2 := hy; simp only [← beq_eq_false_iff_ne] at hy2; have hz2 := hz; simp only [beq_eq_false_iff_ne] at hz2; simp [hy, hy2, hz, hz2, List.lookup_cons, lk, lkj])))
    case hnM =>
      intro p hp
      rcases List.mem_cons.mp hp with rfl | hp
      · exact List.Mem.head _
      · exact List.Mem.tail _ (List.mem_append_left _ hp)
    case hoM => exact fun p hp => List.Mem.tail _ (List.mem_append_right _ hp)
  · (rename Fr _ _ _ _ => F1); (rename News _ _ _ _ => N1)
    rename IntsAre _ _ => iB
    rename ¬ ((_ : Int) < st.snd.snd.snd) => hlt
    simp only [Int.toNat_natCast] at iB F1 N1 hlt
    have e4 : (istep y[i] x st kk).2.2.2 = _ := if_neg hlt
    refine' hIP2 _ _ (InvEndN.intro (nx := (R, _) :: (news ++ own)) F1 N1 ⟨_, c, ?qaN, ?qbN, ?qcN, ?uuN, rfl, ia_cast iB (by rw [hS1]; rfl), ?hmN⟩ rfl ?hnN ?hoN)
    case hmN =>
      rw [hS1, e4]
      (refine feqj [Str.ofString "index", Str.ofString "substitute", Str.ofString "insert_delete"] [Str.ofString "bindex", Str.ofString "bchar", Str.ofString "distance", Str.ofString "minimum", Str.ofString "post", Str.ofString "pre", Str.ofString "a", Str.ofString "b", Str.ofString "max_cost", Str.ofString "row", Str.ofString "result"] ?fjm ?fjj ?fjo; (case fjm => (repeat' (first | exact List.forall_mem_nil _ | (refine List.forall_mem_cons.mpr ⟨by with_unfolding_all rfl, ?_⟩)))); (case fjj => decide); (case fjo => (intro y hy hz; simp only [List.forall_mem_cons, List.not_mem_nil, false_implies, implies_true, and_true] at hy; simp only [List.contains_cons, List.contains_nil, Bool.or_false, Bool.or_eq_false_iff] at hz; have hy2 := hy; simp only [← beq_eq_false_iff_ne] at hy2; have hz2 := hz; simp only [beq_eq_false_iff_ne] at hz2; simp [hy, hy2, hz, hz2, List.lookup_cons, lk, lkj])))
    case hnN =>
      intro p hp
      rcases List.mem_cons.mp hp with rfl | hp
      · exact List.Mem.head _
      · exact List.Mem.tail _ (List.mem_append_left _ hp)
    case hoN => exact fun p hp => List.Mem.tail _ (List.mem_append_right _ hp)
theorem lev5_c : lev5_in.1 lev5K.tkz0 lev5K.hz1 lev5K.R lev5K.ys lev5K.c' lev5K.tkz10 lev5K.hz11 lev5K.tk lev5K.hz14 lev5K.tkz15 lev5K.tz16 lev5K.uz17 lev5K.vz18 lev5K.i lev5K.ti lev5K.h1 lev5K.tk1 lev5K.own lev5K.vs lev5K.c lev5K.row lev5K.res lev5K.q1 lev5K.u lev5K.IP := lev6_in.2 (fun tkz3 tkz6 hz7 tk MP hz10 tkz11 tz12 uz13 vz14 kk tk' h1 tk1 own2 vs c q1 q3 q4 u IP2 st => lev6_s lev6_c (tkz3, tkz6, hz7, tk, MP, hz10, tkz11, tz12, uz13, vz14, kk, tk', h1, tk1, own2, vs, c, q1, q3, q4, u, IP2, st))
theorem lev4_c : lev4_in.1 lev4K.h1 lev4K.tk1 lev4K.x lev4K.y lev4K.v1 lev4K.v2 := lev5_in.2 (fun tkz0 hz1 R ys c' tkz10 hz11 tk hz14 tkz15 tz16 uz17 vz18 i ti h1 tk1 own vs c row res q1 u IP => lev5_s lev5_c (tkz0, hz1, R, ys, c', tkz10, hz11, tk, hz14, tkz15, tz16, uz17, vz18, i, ti, h1, tk1, own, vs, c, row, res, q1, u, IP))
theorem lev3_c : lev3_in.1 lev3K.u1 lev3K.h1 lev3K.tk1 lev3K.u2 lev3K.a3 lev3K.b3 := lev4_in.2 (fun h1 tk1 x y v1 v2 => lev4_s lev4_c (h1, tk1, x, y, v1, v2))
theorem lev2_c : lev2_in.1.1 lev2K.h1 lev2K.tk1 lev2K.j lev2K.t lev2K.tt lev2K.u1 lev2K.u2 := lev3_in.2 (fun u1 h1 tk1 u2 a3 b3 => lev3_s lev3_c (u1, h1, tk1, u2, a3, b3))
theorem lev1_c : lev1_in.1.1 lev1K.k lev1K.t lev1K.tz4 lev1K.tz10 lev1K.tkz14 lev1K.hz15 lev1K.tk lev1K.a2 lev1K.b2 := lev2_in.2 (fun h1 tk1 j t tt u1 u2 => lev2_s lev2_c (h1, tk1, j, t, tt, u1, u2)) (fun MP h1 tk1 j t tt u1 u2 => levC_s levC_c (MP, h1, tk1, j, t, tt, u1, u2))
theorem lev_c : lev_in.1 levK.w levK.mean levK.mg levK.mb levK.news levK.a levK.b levK.mc levK.t1 levK.t2 levK.t3 levK.dpt levK.unt levK.gd levK.cn levK.cs levK.xa levK.ccd levK.cl levK.outerE levK.A₀ levK.base levK.h₀ levK.L levK.m levK.s levK.Q levK.E levK.g' levK.L' levK.h' levK.qk levK.ek := lev1_in.2 (fun k t tz4 tz10 tkz14 hz15 tk a2 b2 => lev1_s lev1_c (k, t, tz4, tz10, tkz14, hz15, tk, a2, b2)) (fun hz1 tk MP h1 tk1 k t => levA_s levA_c (hz1, tk, MP, h1, tk1, k, t))
theorem lev_spc (w : World) (mean : ExcName → Option Value) (mg mb : Str → Option Value) (news : List (Addr × Obj)) (a b : List Nat) (mc : Int) (t1 t2 t3 : Tok) (ha : ∀ c ∈ a, c < 128) (hb : ∀ c ∈ b, c < 128) (hla : a.length ≤ 40) (hlb : b.length ≤ 40) :
    Spc w mean mg mb 81 2 news [.str (S a) t1, .str (S b) t2, .int mc t3] (RetV news fun t => .int (lev a b mc) t) :=
  (lev_in.2 (fun w mean mg mb news a b mc t1 t2 t3 dpt unt gd cn cs xa ccd cl outerE A₀ base h₀ L m s Q E g' L' h' qk ek => lev_s lev_c (w, mean, mg, mb, news, a, b, mc, t1, t2, t3, dpt, unt, gd, cn, cs, xa, ccd, cl, outerE, A₀, base, h₀, L, m, s, Q, E, g', L', h', qk, ek))) w mean mg mb news a b mc t1 t2 t3 ha hb hla hlb
end Mine
end

local macro_rules | `(tactic| walk_at "zz") => `(tactic| fail "no such key")
local macro_rules | `(tactic| walk_at "zz") => `(tactic| fail "no such key")
local macro_rules | `(tactic| walk_at "zz") => `(tactic| fail "no such key")

section
open PySem PySem.W PyProof.Rows
set_option Elab.async false
set_option maxRecDepth 100000
set_option maxHeartbeats 8000000
namespace Mine
section
variable {prog : Program} {w : World} {A : Around} {E : Value → Shared → Prop} {s : Shared} {env : Env} {h₀ : Heap} {target : Expr} {body : List Stmt} {Q : Flow → Shared → Prop}
noncomputable def InvPostR (h₀ : Heap) (L : Addr) (J : (Str → Option Value) → List (Addr × Obj) → Prop) (its : List (Addr × Obj)) (s₁ : Shared) (Q : Flow → Shared → Prop) (f : Flow) (s₂ : Shared) : Prop :=
  match f with
  | .ret v => Q (.ret v) s₂
  | .brk => Q .next s₂
  | _ => ∃ h' tk m' news' nx, s₂ = { s₁ with heap := h', toks := tk } ∧ Fr h₀ L h' m' ∧ News h₀ L h' news' ∧ (∀ p ∈ nx, p ∈ news') ∧ (∀ p ∈ its, p ∈ news') ∧ (∀ p ∈ nx, ∀ q ∈ its, p.1 ≠ q.1) ∧ J m' nx
theorem InvPostR.next {L : Addr} {J : (Str → Option Value) → List (Addr × Obj) → Prop} {its news' nx : List (Addr × Obj)} {s₁ : Shared} {h' : Heap} {tk : Nat} {m' : Str → Option Value} (F : Fr h₀ L h' m') (N : News h₀ L h' news')
    (hn : ∀ p ∈ nx, p ∈ news') (ho : ∀ p ∈ its, p ∈ news') (hf : ∀ p ∈ nx, ∀ q ∈ its, p.1 ≠ q.1) (j : J m' nx) : InvPostR h₀ L J its s₁ Q .next { s₁ with heap := h', toks := tk } := ⟨h', tk, m', news', nx, rfl, F, N, hn, ho, hf, j⟩
theorem InvPostR.next3 {L : Addr} {J : (Str → Option Value) → List (Addr × Obj) → Prop} {a b c : Addr × Obj} {l r : List (Addr × Obj)} {s₁ : Shared} {h' : Heap} {tk : Nat} {m' : Str → Option Value} (F : Fr h₀ L h' m') (N : News h₀ L h' (a :: b :: c :: (l ++ r)))
    (hf : ∀ p ∈ a :: b :: c :: l, ∀ q ∈ r, p.1 ≠ q.1) (j : J m' (a :: b :: c :: l)) : InvPostR h₀ L J r s₁ Q .next { s₁ with heap := h', toks := tk } :=
  InvPostR.next F N (sub_app [a, b, c] l r) (sub_app2 [a, b, c] l r) hf j
theorem InvPostR.swap3 {L : Addr} {J : (Str → Option Value) → List (Addr × Obj) → Prop} {a b d : Addr × Obj} {l r : List (Addr × Obj)} {s₁ : Shared} {h' : Heap} {tk : Nat} {m' : Str → Option Value} (F : Fr h₀ L h' m') (N : News h₀ L h' (b :: a :: d :: (l ++ r)))
    (hf : ∀ p ∈ a :: b :: l, ∀ q ∈ r, p.1 ≠ q.1) (j : J m' (a :: b :: l)) : InvPostR h₀ L J r s₁ Q .next { s₁ with heap := h', toks := tk } :=
  InvPostR.next F N (fun p hp => by
    rcases List.mem_cons.mp hp with rfl | hp
    · exact List.Mem.tail _ (List.Mem.head _)
    · rcases List.mem_cons.mp hp with rfl | hp
      · exact List.Mem.head _
      · exact List.Mem.tail _ (List.Mem.tail _ (List.Mem.tail _ (List.mem_append_left _ hp)))) (fun p hp => List.Mem.tail _ (List.Mem.tail _ (List.Mem.tail _ (List.mem_append_right _ hp)))) hf j
theorem items_inv {ws : List (Addr × String)} {keep : List (Addr × Obj)} {xs : List Itm} (J : Nat → (Str → Option Value) → List (Addr × Obj) → Prop)
    (hkeep : ∀ i m nx, J i m nx → SubL keep nx)
    (turn : ∀ i a v m nx h tk its, xs[i]? = some a → a.Is v h → J i m nx → Fr h₀ env.locals h m → Objs ws its → News h₀ env.locals h (nx ++ its) →
      wpAny (model prog w) A (assign target env v) (fun _ s₂ => wpAny (model prog w) A (execs body env) (InvPostR h₀ env.locals (J (i + 1)) its { s with heap := h, toks := tk } Q) E s₂) E { s with heap := h, toks := tk })
    (done : ∀ m nx h tk, J xs.length m nx → Fr h₀ env.locals h m → News h₀ env.locals h nx → Q .next { s with heap := h, toks := tk }) :
    ∀ k i m nx, i + k = xs.length → J i m nx → ItemsRest prog w A E h₀ env target body Q s ws keep (xs.drop i) m nx := by
  intro k
  induction k with
  | zero =>
    intro i m nx hi hJ
    have hi' : i = xs.length := by omega
    subst hi'
    rw [List.drop_length]
    exact ItemsRest.zero fun h tk F N => done m nx h tk hJ F N
  | succ k ih =>
    intro i m nx hi hJ
    have hlt : i < xs.length := by omega
    rw [List.drop_eq_getElem_cons hlt]
    intro v h tk ha F
    have key : ∀ its, Objs ws its → News h₀ env.locals h (its ++ nx) →
        wpAny (model prog w) A (assign target env v) (fun _ s₂ => wpAny (model prog w) A (execs body env) (UnrPostW h₀ env.locals { s with heap := h, toks := tk } its (fun m' n' => SubL keep n' ∧ ItemsRest prog w A E h₀ env target body Q s ws keep (xs.drop (i + 1)) m' n') Q) E s₂) E { s with heap := h, toks := tk } := by
      intro its ho N
      have N' : News h₀ env.locals h (nx ++ its) := fun p hp => N p ((List.mem_append.mp hp).elim (fun h => List.mem_append_right _ h) fun h => List.mem_append_left _ h)
      refine wpAny_mono (turn i _ v m nx h tk its (List.getElem?_eq_getElem hlt) ha hJ F ho N') (fun _ s₂ p => wpAny_mono p (fun f s₃ q => ?_) fun _ _ x => x) fun _ _ x => x
      have fin : (∃ h' tk' m' news' nx', s₃ = { ({ s with heap := h, toks := tk } : Shared) with heap := h', toks := tk' } ∧ Fr h₀ env.locals h' m' ∧ News h₀ env.locals h' news' ∧ (∀ p ∈ nx', p ∈ news') ∧ (∀ p ∈ its, p ∈ news') ∧ (∀ p ∈ nx', ∀ q ∈ its, p.1 ≠ q.1) ∧ J (i + 1) m' nx') →
          UnrEndW h₀ env.locals { s with heap := h, toks := tk } its (fun m' n' => SubL keep n' ∧ ItemsRest prog w A E h₀ env target body Q s ws keep (xs.drop (i + 1)) m' n') s₃ := by
        rintro ⟨h', tk', m', news', nx', e, F', N', hn, ho', hf, j⟩
        refine ⟨h', tk', m', nx', e, F', fun p hp => ?_, hf, hkeep _ _ _ j, ih (i + 1) m' nx' (by omega) j⟩
        exact N' p ((List.mem_append.mp hp).elim (ho' p) (hn p))
      cases f with
      | ret v => exact q
      | brk => exact q
      | next => exact fin q
      | cont => exact fin q
    have all : ∀ (ws' : List (Addr × String)) (k : List (Addr × Obj) → Prop), (∀ its, Objs ws' its → k its) → AllObj ws' k := by
      intro ws'
      induction ws' with
      | nil => intro k hk; exact AllObj.nil (hk [] trivial)
      | cons a r ihr =>
        intro k hk
        refine AllObj.cons fun o ho => ihr _ fun its hi => hk _ ⟨⟨rfl, ho⟩, hi⟩
    exact all ws _ key
theorem intsAre_get {vs : List Value} {ns : List Int} (hi : IntsAre vs ns) : ∀ {i : Nat} {v : Value}, vs[i]? = some v → ∃ n t, ns[i]? = some n ∧ v = .int n t := by
  induction hi with
  | nil => intro i v h; simp at h
  | cons n t _ ih =>
    intro i v h
    cases i with
    | zero => simp at h; exact ⟨n, t, by simp, h.symm⟩
    | succ i => simp at h; obtain ⟨n', t', a, b⟩ := ih h; exact ⟨n', t', by simpa using a, b⟩
theorem objs_one {a : Addr} {c : String} {its : List (Addr × Obj)} (h : Objs [(a, c)] its) : ∃ o, its = [(a, o)] := by
  cases its with
  | nil => exact h.elim
  | cons p r =>
    cases r with
    | nil => obtain ⟨x, o⟩ := p; exact ⟨o, by rw [show x = a from h.1.1]⟩
    | cons q r => exact (h.2 : False).elim
theorem objs_two {a b : Addr} {c d : String} {its : List (Addr × Obj)} (h : Objs [(a, c), (b, d)] its) : ∃ o1 o2, its = [(a, o1), (b, o2)] := by
  cases its with
  | nil => exact h.elim
  | cons p r =>
    obtain ⟨x, o⟩ := p
    obtain ⟨o2, rfl⟩ := objs_one h.2
    exact ⟨o, o2, by rw [show x = a from h.1.1]⟩
/-- for x in a list of ints of the ledger -/
theorem list_turns {ax : Addr} {vs : List Value} {ns : List Int} {n : Nat} {m₀ : Str → Option Value} {news : List (Addr × Obj)} (J : Addr → Nat → (Str → Option Value) → List (Addr × Obj) → Prop)
    (hh : A.handled = none) (F : Fr h₀ env.locals s.heap m₀) (N : News h₀ env.locals s.heap news) (hm : (ax, listOf vs.toArray n) ∈ news) (hi : IntsAre vs ns)
    (hj : ∀ I, (∀ p ∈ news, p.1 < I) → J I 0 m₀ news) (hkeep : ∀ I i m nx, J I i m nx → (ax, listOf vs.toArray n) ∈ nx)
    (turn : ∀ I i k t m nx h tk oi, (∀ p ∈ news, p.1 < I) → ns[i]? = some k → J I i m nx → Fr h₀ env.locals h m → News h₀ env.locals h (nx ++ [(I, oi)]) →
      wpAny (model prog w) A (assign target env (.int k t)) (fun _ s₂ => wpAny (model prog w) A (execs body env) (InvPostR h₀ env.locals (J I (i + 1)) [(I, oi)] { s with heap := h, toks := tk } Q) E s₂) E { s with heap := h, toks := tk })
    (done : ∀ I m nx h tk, (∀ p ∈ news, p.1 < I) → J I ns.length m nx → Fr h₀ env.locals h m → News h₀ env.locals h nx → Q .next { s with heap := h, toks := tk }) :
    wpAny (model prog w) A (pyIter (.ref ax)) (fun it s₂ => TurnsAt prog w A h₀ env target body Q E it s₂) E s := by
  refine iter_listTurns hh F N hm rfl rfl fun I hI => ?_
  have hlen : (vs.map Itm.val).length = ns.length := by simp [hi.length]
  have := items_inv (prog := prog) (w := w) (A := A) (E := E) (s := s) (env := env) (h₀ := h₀) (target := target) (body := body) (Q := Q) (ws := [(I, "list_iterator")]) (keep := [(ax, listOf vs.toArray n)]) (xs := vs.map Itm.val) (J I)
    (fun i m nx j => ⟨hkeep _ _ _ _ j, trivial⟩) (fun i a v m nx h tk its ha hav j F' ho N' => ?_) (fun m nx h tk j F' N' => done I m nx h tk hI (hlen ▸ j) F' N') (vs.map Itm.val).length 0 m₀ news (by omega) (hj I hI)
  · simpa using this
  · rw [List.getElem?_map] at ha
    cases hv : vs[i]? with
    | none => rw [hv] at ha; cases ha
    | some v' =>
      rw [hv] at ha
      obtain rfl := Option.some.inj ha
      obtain rfl : v = v' := hav
      obtain ⟨k, t, hk, rfl⟩ := intsAre_get hi hv
      obtain ⟨oi, rfl⟩ := objs_one ho
      exact turn I i k t m nx h tk oi hI hk j F' N'
/-- for j, y in enumerate(a list of ints of the ledger) -/
theorem enum_turns {elts : List Expr} {kk : Nat} {pos : Pos} {ax : Addr} {vs : List Value} {ns : List Int} {n : Nat} {m₀ : Str → Option Value} {news : List (Addr × Obj)} (J : Addr → Nat → (Str → Option Value) → List (Addr × Obj) → Prop)
    (hh : A.handled = none) (F : Fr h₀ env.locals s.heap m₀) (N : News h₀ env.locals s.heap news) (hm : (ax, listOf vs.toArray n) ∈ news) (hi : IntsAre vs ns)
    (hj : ∀ I, (∀ p ∈ news, p.1 < I) → J I 0 m₀ news) (hkeep : ∀ I i m nx, J I i m nx → (ax, listOf vs.toArray n) ∈ nx)
    (turn : ∀ I i k t u T m nx h tk o1 o2, (∀ p ∈ news, p.1 < I) → ns[i]? = some k → J I i m nx → IsTup h T #[.int (i : Int) u, .int k t] → Fr h₀ env.locals h m → News h₀ env.locals h (nx ++ [(I + 1, o1), (I, o2)]) →
      wpAny (model prog w) A (assign (.Tuple elts kk pos) env (.ref T)) (fun _ s₂ => wpAny (model prog w) A (execs body env) (InvPostR h₀ env.locals (J I (i + 1)) [(I + 1, o1), (I, o2)] { s with heap := h, toks := tk } Q) E s₂) E { s with heap := h, toks := tk })
    (done : ∀ I m nx h tk, (∀ p ∈ news, p.1 < I) → J I ns.length m nx → Fr h₀ env.locals h m → News h₀ env.locals h nx → Q .next { s with heap := h, toks := tk }) :
    wpAny (model prog w) A (call (.type "enumerate") [.ref ax]) (fun xv s₁ => wpAny (model prog w) A (pyIter xv) (fun it s₂ => TurnsAt prog w A h₀ env (.Tuple elts kk pos) body Q E it s₂) E s₁) E s := by
  refine ktu_enum hh F N hm rfl rfl rfl fun I hI => ?_
  have hlen : (enumItems 0 vs).length = ns.length := by rw [enumItems_length, hi.length]
  have := items_inv (prog := prog) (w := w) (A := A) (E := E) (s := s) (env := env) (h₀ := h₀) (target := .Tuple elts kk pos) (body := body) (Q := Q) (ws := [(I + 1, "enumerate"), (I, "list_iterator")]) (keep := [(ax, listOf vs.toArray n)]) (xs := enumItems 0 vs) (J I)
    (fun i m nx j => ⟨hkeep _ _ _ _ j, trivial⟩) (fun i a v m nx h tk its ha hav j F' ho N' => ?_) (fun m nx h tk j F' N' => done I m nx h tk hI (hlen ▸ j) F' N') (enumItems 0 vs).length 0 m₀ news (by omega) (hj I hI)
  · simpa using this
  · have hlt : i < vs.length := by
      have := (List.getElem?_eq_some_iff.mp ha).1
      rw [enumItems_length] at this; exact this
    have hv := List.getElem?_eq_getElem hlt
    have he := enumItems_get vs 0 i hv
    rw [he] at ha
    obtain rfl := Option.some.inj ha
    obtain ⟨k, t, hk, e⟩ := intsAre_get hi hv
    obtain ⟨T, u, rfl, hT⟩ := hav
    rw [e] at hT
    simp only [Nat.zero_add] at hT
    obtain ⟨o1, o2, rfl⟩ := objs_two ho
    exact turn I i k t u T m nx h tk o1 o2 hI hk j hT F' N'
end
section
variable {prog : Program} {w : World} {A : Around} {h₀ : Heap} {L : Addr} {m : Str → Option Value} {env : Env} {elt : Expr} {x : Str} {scope : Scope} {cl : List (Str × Addr)} {s : Shared} {S : List (Addr × Obj) → Prop} {P : Nat → Value → Prop} {Fin : List Value → List (Addr × Obj) → Prop}
theorem comp_inv {n : Nat} (J : Nat → List Value → List (Addr × Obj) → Prop)
    (turn : ∀ i v I oI C oC D m₂ h tk (E' : Value → Shared → Prop) ys nx, i < n → J i ys nx → P i v → LCg.NsObj oC m₂ → m₂ x = some v → Fr h₀ L h m → News h₀ L h ((I, oI) :: (C, oC) :: (D, LCg.lst ys) :: nx) → LCg.Off3 I C D nx → ((@Ne Nat I C) ∧ (@Ne Nat I D) ∧ (@Ne Nat C D)) →
      wpAny (model prog w) A (eval elt (compEnvC scope cl C env)) (LCg.CompEnd h₀ L m { s with heap := h, toks := tk } I oI C oC D (LCg.lst ys) S (fun y news' => J (i + 1) (ys ++ [y]) news')) E' { s with heap := h, toks := tk })
    (fin : ∀ ys nx, J n ys nx → Fin ys nx) : ∀ k i ys nx, i + k = n → J i ys nx → LCg.CompRest prog w A h₀ L m env elt x scope cl s S P Fin k i ys nx := by
  intro k
  induction k with
  | zero =>
    intro i ys nx hi hJ
    have : i = n := by omega
    subst this
    exact LCg.CompRest.zero (fin ys nx hJ)
  | succ k ih =>
    intro i ys nx hi hJ
    refine LCg.CompRest.succ fun v I oI C oC D m₂ h tk E' hP hC hx F N off ne => ?_
    refine wpAny_mono (turn i v I oI C oC D m₂ h tk E' ys nx (by omega) hJ hP hC hx F N off ne) (fun y s₂ q => ?_) fun _ _ e => e
    obtain ⟨h', tk', news', e, F', N', off', hS, j⟩ := q
    exact ⟨h', tk', news', e, F', N', off', hS, ih (i + 1) _ _ (by omega) j⟩
end
end Mine
end

local macro_rules | `(tactic| walk_at "call builtin:len") => `(tactic| ((with_reducible show wpAny _ _ (call (Value.builtin "len") [Value.ref _]) _ _ _); k_dflt (refine' kst_len ?k1 ?k2 ?k3 ?k4 ?_; (case k1 => k_asm); (case k2 => k_mem); (case k3 => first | assumption | exact IntsAre.length (by assumption)); (case k4 => omega)); k_whole))
section
theorem Mine.offS3 : True := by
  w_top off
  trivial
open PySem PySem.W PyProof.Rows
set_option Elab.async false
set_option maxRecDepth 100000
set_option maxHeartbeats 8000000
namespace Mine
local macro_rules | `(tactic| walk_at "call builtin:min") => `(tactic| ((with_reducible show wpAny _ _ (call (Value.builtin _) [Value.int _ _, Value.int _ _, Value.int _ _]) _ _ _); k_dflt (refine' min3_call ?k0 ?k1 ?k2 ?_; (case k0 => rfl); (case k1 | k2 => k_asm)); intro h' tk t' F' N'))
noncomputable abbrev RetL (news : List (Addr × Obj)) (ns : List Int) : Heap → Addr → (Str → Option Value) → Shared → (Value → Shared → Prop) → Prop :=
  fun h₀ L m s Q => ∀ (P : Addr) (pvs : List Value) (c : Nat) (h' : Heap) (tk' : Nat), Fr h₀ L h' m → News h₀ L h' ((P, listOf pvs.toArray c) :: news) → IntsAre pvs ns → (∀ p ∈ news, p.1 < P) → Q (.ref P) { s with heap := h', toks := tk' }
noncomputable def prices_in : { PRED : World → (ExcName → Option Value) → (Str → Option Value) → (Str → Option Value) → (List (Addr × Obj)) → Addr → Addr → (List Value) → (List Value) → (List Int) → (List Int) → Nat → Nat → Nat → Nat → (Option (List Code)) → Str → Scope → Addr → Value → (List (Str × Addr)) → (List Env) → Around → Heap → Heap → Addr → (Str → Option Value) → Shared → (Value → Shared → Prop) → (Value → Shared → Prop) → Heap → Addr → Heap → (Flow → Shared → Prop) → (Value → Shared → Prop) → Prop // (∀ (w : World) (mean : ExcName → Option Value) (mg : Str → Option Value) (mb : Str → Option Value) (news : List (Addr × Obj)) (sL : Addr) (lL : Addr) (svs : List Value) (lvs : List Value) (sn : List Int) (ln : List Int) (sc : Nat) (lc : Nat) (dpt : Nat) (unt : Nat) (gd : Option (List Code)) (cn : Str) (cs : Scope) (xa : Addr) (ccd : Value) (cl : List (Str × Addr)) (outerE : List Env) (A₀ : Around) (base : Heap) (h₀ : Heap) (L : Addr) (m : Str → Option Value) (s : Shared) (Q : Value → Shared → Prop) (E : Value → Shared → Prop) (g' : Heap) (L' : Addr) (h' : Heap) (qk : Flow → Shared → Prop) (ek : Value → Shared → Prop), PRED w mean mg mb news sL lL svs lvs sn ln sc lc dpt unt gd cn cs xa ccd cl outerE A₀ base h₀ L m s Q E g' L' h' qk ek) → ∀ (w : World) (mean : ExcName → Option Value) (mg mb : Str → Option Value) (news : List (Addr × Obj)) (sL lL : Addr) (svs lvs : List Value) (sn ln : List Int) (sc lc : Nat), (sL, listOf svs.toArray sc) ∈ news → (lL, listOf lvs.toArray lc) ∈ news → IntsAre svs sn → IntsAre lvs ln → ln.length ≤ 10 → sn.length ≤ 10 → (∀ x ∈ ln, 0 ≤ x ∧ x < 4) → (∀ x ∈ sn, 0 ≤ x ∧ x < 4) →
    Spc w mean mg mb 91 2 news [.ref sL, .ref lL] (RetL news (prices sn ln)) } :=
  ⟨_, fun HYP => by
  intro w mean mg mb news sL lL svs lvs sn ln sc lc hs hl is il hln hsn hb hbs
  dsimp only [Spc, RetL]
  k_fill
  intro dpt unt gd cn cs xa ccd cl outerE A₀ base h₀ L m s Q E hBel hFr hIn hNw hTop hcs hdp hun hret
  refine wpAny_call ?_
  k_dflt (refine' code_def (binds := [(Str.ofString "said", .ref sL), (Str.ofString "letters", .ref lL)]) ?k1 ?k2 ?k3 ?k4 ?k5 ?kA ?kF ?kK ?k6 ?k7 ?k8 ?k9 ?kB ?_ ?c2 ?c3 ?c4 ?c5; (case kA => exact rfl); (case kF => exact rfl); (case kK => assumption); (case k1 => k_asm); (case k2 => k_asm); (case k3 => k_asm); (case k4 => k_asm); (case k5 => k_asm); (case k6 => k_is); (case k7 => k_is); (case k8 => first | exact Nat.le_of_ble_eq_true rfl | ktr_room); (case k9 => exact BindsTo.of_eq rfl); (case c5 => decide); (case kB => exact locs rfl); (case c2 => exact rfl); (case c3 => exact rfl); (case c4 => exact rfl); k_whole; intro g' L' h' FG' F' N' B' X' T'; (try dsimp only); (try k_lift B'))
  refine cut_qe (by passes_own) ?_
  intro qk ek hqk hek
  (try dsimp only at hqk)
  clear hcs hFr hNw
  revert hek; revert hqk; revert N'; revert F'; revert T'; revert X'; revert B'; revert FG'; revert hret; revert hun; revert hdp; revert hTop; revert hIn; revert hBel; revert hbs; revert hb; revert hsn; revert hln; revert il; revert is; revert hl; revert hs
  revert ek; revert qk; revert h'; revert L'; revert g'; revert E; revert Q; revert s; revert m; revert L; revert h₀; revert base; revert A₀; revert outerE; revert cl; revert ccd; revert xa; revert cs; revert cn; revert gd; revert unt; revert dpt; revert lc; revert sc; revert ln; revert sn; revert lvs; revert svs; revert lL; revert sL; revert news; revert mb; revert mg; revert mean; revert w
  exact HYP⟩
noncomputable def prices_B : World × (ExcName → Option Value) × (Str → Option Value) × (Str → Option Value) × (List (Addr × Obj)) × Addr × Addr × (List Value) × (List Value) × (List Int) × (List Int) × Nat × Nat × Nat × Nat × (Option (List Code)) × Str × Scope × Addr × Value × (List (Str × Addr)) × (List Env) × Around × Heap × Heap × Addr × (Str → Option Value) × Shared × (Value → Shared → Prop) × (Value → Shared → Prop) × Heap × Addr × Heap × (Flow → Shared → Prop) × (Value → Shared → Prop) → Prop := fun v => prices_in.1 v.1 v.2.1 v.2.2.1 v.2.2.2.1 v.2.2.2.2.1 v.2.2.2.2.2.1 v.2.2.2.2.2.2.1 v.2.2.2.2.2.2.2.1 v.2.2.2.2.2.2.2.2.1 v.2.2.2.2.2.2.2.2.2.1 v.2.2.2.2.2.2.2.2.2.2.1 v.2.2.2.2.2.2.2.2.2.2.2.1 v.2.2.2.2.2.2.2.2.2.2.2.2.1 v.2.2.2.2.2.2.2.2.2.2.2.2.2.1 v.2.2.2.2.2.2.2.2.2.2.2.2.2.2.1 v.2.2.2.2.2.2.2.2.2.2.2.2.2.2.2.1 v.2.2.2.2.2.2.2.2.2.2.2.2.2.2.2.2.1 v.2.2.2.2.2.2.2.2.2.2.2.2.2.2.2.2.2.1 v.2.2.2.2.2.2.2.2.2.2.2.2.2.2.2.2.2.2.1 v.2.2.2.2.2.2.2.2.2.2.2.2.2.2.2.2.2.2.2.1 v.2.2.2.2.2.2.2.2.2.2.2.2.2.2.2.2.2.2.2.2.1 v.2.2.2.2.2.2.2.2.2.2.2.2.2.2.2.2.2.2.2.2.2.1 v.2.2.2.2.2.2.2.2.2.2.2.2.2.2.2.2.2.2.2.2.2.2.1 v.2.2.2.2.2.2.2.2.2.2.2.2.2.2.2.2.2.2.2.2.2.2.2.1 v.2.2.2.2.2.2.2.2.2.2.2.2.2.2.2.2.2.2.2.2.2.2.2.2.1 v.2.2.2.2.2.2.2.2.2.2.2.2.2.2.2.2.2.2.2.2.2.2.2.2.2.1 v.2.2.2.2.2.2.2.2.2.2.2.2.2.2.2.2.2.2.2.2.2.2.2.2.2.2.1 v.2.2.2.2.2.2.2.2.2.2.2.2.2.2.2.2.2.2.2.2.2.2.2.2.2.2.2.1 v.2.2.2.2.2.2.2.2.2.2.2.2.2.2.2.2.2.2.2.2.2.2.2.2.2.2.2.2.1 v.2.2.2.2.2.2.2.2.2.2.2.2.2.2.2.2.2.2.2.2.2.2.2.2.2.2.2.2.2.1 v.2.2.2.2.2.2.2.2.2.2.2.2.2.2.2.2.2.2.2.2.2.2.2.2.2.2.2.2.2.2.1 v.2.2.2.2.2.2.2.2.2.2.2.2.2.2.2.2.2.2.2.2.2.2.2.2.2.2.2.2.2.2.2.1 v.2.2.2.2.2.2.2.2.2.2.2.2.2.2.2.2.2.2.2.2.2.2.2.2.2.2.2.2.2.2.2.2.1 v.2.2.2.2.2.2.2.2.2.2.2.2.2.2.2.2.2.2.2.2.2.2.2.2.2.2.2.2.2.2.2.2.2.1 v.2.2.2.2.2.2.2.2.2.2.2.2.2.2.2.2.2.2.2.2.2.2.2.2.2.2.2.2.2.2.2.2.2.2
noncomputable def prices_v : World × (ExcName → Option Value) × (Str → Option Value) × (Str → Option Value) × (List (Addr × Obj)) × Addr × Addr × (List Value) × (List Value) × (List Int) × (List Int) × Nat × Nat × Nat × Nat × (Option (List Code)) × Str × Scope × Addr × Value × (List (Str × Addr)) × (List Env) × Around × Heap × Heap × Addr × (Str → Option Value) × Shared × (Value → Shared → Prop) × (Value → Shared → Prop) × Heap × Addr × Heap × (Flow → Shared → Prop) × (Value → Shared → Prop) := Classical.choose (drink ⟨(Classical.choice neWorld, default, default, default, default, default, default, default, default, default, default, default, default, default, default, default, default, default, default, default, default, default, {}, default, default, default, default, {}, default, default, default, default, default, default, default)⟩ prices_B)
theorem prices_s : prices_B prices_v → ∀ v, prices_B v := by
  with_unfolding_all exact Classical.choose_spec (drink ⟨(Classical.choice neWorld, default, default, default, default, default, default, default, default, default, default, default, default, default, default, default, default, default, default, default, default, default, {}, default, default, default, default, {}, default, default, default, default, default, default, default)⟩ prices_B)
namespace pricesK
noncomputable def w : World := prices_v.1
noncomputable def mean : ExcName → Option Value := prices_v.2.1
noncomputable def mg : Str → Option Value := prices_v.2.2.1
noncomputable def mb : Str → Option Value := prices_v.2.2.2.1
noncomputable def news : List (Addr × Obj) := prices_v.2.2.2.2.1
noncomputable def sL : Addr := prices_v.2.2.2.2.2.1
noncomputable def lL : Addr := prices_v.2.2.2.2.2.2.1
noncomputable def svs : List Value := prices_v.2.2.2.2.2.2.2.1
noncomputable def lvs : List Value := prices_v.2.2.2.2.2.2.2.2.1
noncomputable def sn : List Int := prices_v.2.2.2.2.2.2.2.2.2.1
noncomputable def ln : List Int := prices_v.2.2.2.2.2.2.2.2.2.2.1
noncomputable def sc : Nat := prices_v.2.2.2.2.2.2.2.2.2.2.2.1
noncomputable def lc : Nat := prices_v.2.2.2.2.2.2.2.2.2.2.2.2.1
noncomputable def dpt : Nat := prices_v.2.2.2.2.2.2.2.2.2.2.2.2.2.1
noncomputable def unt : Nat := prices_v.2.2.2.2.2.2.2.2.2.2.2.2.2.2.1
noncomputable def gd : Option (List Code) := prices_v.2.2.2.2.2.2.2.2.2.2.2.2.2.2.2.1
noncomputable def cn : Str := prices_v.2.2.2.2.2.2.2.2.2.2.2.2.2.2.2.2.1
noncomputable def cs : Scope := prices_v.2.2.2.2.2.2.2.2.2.2.2.2.2.2.2.2.2.1
noncomputable def xa : Addr := prices_v.2.2.2.2.2.2.2.2.2.2.2.2.2.2.2.2.2.2.1
noncomputable def ccd : Value := prices_v.2.2.2.2.2.2.2.2.2.2.2.2.2.2.2.2.2.2.2.1
noncomputable def cl : List (Str × Addr) := prices_v.2.2.2.2.2.2.2.2.2.2.2.2.2.2.2.2.2.2.2.2.1
noncomputable def outerE : List Env := prices_v.2.2.2.2.2.2.2.2.2.2.2.2.2.2.2.2.2.2.2.2.2.1
noncomputable def A₀ : Around := prices_v.2.2.2.2.2.2.2.2.2.2.2.2.2.2.2.2.2.2.2.2.2.2.1
noncomputable def base : Heap := prices_v.2.2.2.2.2.2.2.2.2.2.2.2.2.2.2.2.2.2.2.2.2.2.2.1
noncomputable def h₀ : Heap := prices_v.2.2.2.2.2.2.2.2.2.2.2.2.2.2.2.2.2.2.2.2.2.2.2.2.1
noncomputable def L : Addr := prices_v.2.2.2.2.2.2.2.2.2.2.2.2.2.2.2.2.2.2.2.2.2.2.2.2.2.1
noncomputable def m : Str → Option Value := prices_v.2.2.2.2.2.2.2.2.2.2.2.2.2.2.2.2.2.2.2.2.2.2.2.2.2.2.1
noncomputable def s : Shared := prices_v.2.2.2.2.2.2.2.2.2.2.2.2.2.2.2.2.2.2.2.2.2.2.2.2.2.2.2.1
noncomputable def Q : Value → Shared → Prop := prices_v.2.2.2.2.2.2.2.2.2.2.2.2.2.2.2.2.2.2.2.2.2.2.2.2.2.2.2.2.1
noncomputable def E : Value → Shared → Prop := prices_v.2.2.2.2.2.2.2.2.2.2.2.2.2.2.2.2.2.2.2.2.2.2.2.2.2.2.2.2.2.1
noncomputable def g' : Heap := prices_v.2.2.2.2.2.2.2.2.2.2.2.2.2.2.2.2.2.2.2.2.2.2.2.2.2.2.2.2.2.2.1
noncomputable def L' : Addr := prices_v.2.2.2.2.2.2.2.2.2.2.2.2.2.2.2.2.2.2.2.2.2.2.2.2.2.2.2.2.2.2.2.1
noncomputable def h' : Heap := prices_v.2.2.2.2.2.2.2.2.2.2.2.2.2.2.2.2.2.2.2.2.2.2.2.2.2.2.2.2.2.2.2.2.1
noncomputable def qk : Flow → Shared → Prop := prices_v.2.2.2.2.2.2.2.2.2.2.2.2.2.2.2.2.2.2.2.2.2.2.2.2.2.2.2.2.2.2.2.2.2.1
noncomputable def ek : Value → Shared → Prop := prices_v.2.2.2.2.2.2.2.2.2.2.2.2.2.2.2.2.2.2.2.2.2.2.2.2.2.2.2.2.2.2.2.2.2.2
end pricesK
open Mine.pricesK in
noncomputable def prices2_in : { PRED : PySem.Heap → (List PySem.Value) → PySem.Addr → PySem.Tok → PySem.Addr → PySem.Heap → Nat → PySem.Addr → Nat → Int → PySem.Tok → PySem.Heap → Nat → PySem.Obj → PySem.Addr → (List PySem.Value) → (List PySem.Value) → Nat → Nat → (PySem.Str → Option PySem.Value) → (List Int × List Int) → Prop // (∀ (hz0 : PySem.Heap) (ys : List PySem.Value) (Dz6 : PySem.Addr) (t0 : PySem.Tok) (P : PySem.Addr) (hx2 : PySem.Heap) (tkz9 : Nat) (I : PySem.Addr) (i : Nat) (k : Int) (t : PySem.Tok) (h : PySem.Heap) (tk : Nat) (oi : PySem.Obj) (D : PySem.Addr) (rvs : List PySem.Value) (pvs : List PySem.Value) (c1 : Nat) (c2 : Nat) (u : PySem.Str → Option PySem.Value) (st : List Int × List Int), PRED hz0 ys Dz6 t0 P hx2 tkz9 I i k t h tk oi D rvs pvs c1 c2 u st) → prices_in.1 pricesK.w pricesK.mean pricesK.mg pricesK.mb pricesK.news pricesK.sL pricesK.lL pricesK.svs pricesK.lvs pricesK.sn pricesK.ln pricesK.sc pricesK.lc pricesK.dpt pricesK.unt pricesK.gd pricesK.cn pricesK.cs pricesK.xa pricesK.ccd pricesK.cl pricesK.outerE pricesK.A₀ pricesK.base pricesK.h₀ pricesK.L pricesK.m pricesK.s pricesK.Q pricesK.E pricesK.g' pricesK.L' pricesK.h' pricesK.qk pricesK.ek } :=
  ⟨_, fun HYP => by
  unfold prices_in
  dsimp only
  k_fill
  intro hs hl is il hln hsn hb hbs hBel hIn hTop hdp hun hret FG' B' X' T' F' N' hqk hek
  have hll := il.length
  repeat' ((fail_if_success (with_reducible show wpAny _ _ (exec _ _) _ _ _)); (fail_if_success (with_reducible show LCg.CompSrc _ _ _ _ _ _ _ _ _ _ _ _ _ _)); (fail_if_success (with_reducible show LCg.CompEnd _ _ _ _ _ _ _ _ _ _ _ _ _ _)); (fail_if_success (with_reducible show InvPostR _ _ _ _ _ _ _ _)); (fail_if_success (with_reducible show Mid0 _ _ _ _ _ _)); (fail_if_success (with_reducible show WhileStep2 _ _ _ _ _ _ _ _)); (fail_if_success (with_reducible show InvPostN _ _ _ _ _ _ _ _ _)); (fail_if_success (with_reducible show wpAny _ _ (exec (Stmt.While _ _ _ _) _) _ _ _)); (fail_if_success (with_reducible show wpAny _ _ (exec (Stmt.For _ _ _ _ _) _) _ _ _)); first | (k_unfold; (try dsimp only)) | ((with_reducible refine hqk _ _ ?_); (try dsimp only)) | (walk1 <;> (try dsimp only)) | (dsimp only; walk1) | (leave1; walk_say "STEP leave1"; try dsimp only) | fail "no step")
  (k_dflt (refine LCg.Assign_ListComp_U (F₀ := by k_asm) (by rfl) (by with_unfolding_all rfl) (by rfl) (by decide) (by rfl) (by decide) (by rfl) (by rfl) (by rfl) ?_))
  repeat' ((fail_if_success (with_reducible show LCg.CompSrc _ _ _ _ _ _ _ _ _ _ _ _ _ _)); (fail_if_success (with_reducible show LCg.CompEnd _ _ _ _ _ _ _ _ _ _ _ _ _ _)); (fail_if_success (with_reducible show InvPostR _ _ _ _ _ _ _ _)); (fail_if_success (with_reducible show Mid0 _ _ _ _ _ _)); (fail_if_success (with_reducible show WhileStep2 _ _ _ _ _ _ _ _)); (fail_if_success (with_reducible show InvPostN _ _ _ _ _ _ _ _ _)); (fail_if_success (with_reducible show wpAny _ _ (exec (Stmt.While _ _ _ _) _) _ _ _)); (fail_if_success (with_reducible show wpAny _ _ (exec (Stmt.For _ _ _ _ _) _) _ _ _)); first | (k_unfold; (try dsimp only)) | ((with_reducible refine hqk _ _ ?_); (try dsimp only)) | (walk1 <;> (try dsimp only)) | (dsimp only; walk1) | (leave1; walk_say "STEP leave1"; try dsimp only) | fail "no step")
  (rename Fr _ _ _ _ => F1); (rename News _ _ _ _ => N1)
  rename IsRange _ _ _ _ _ _ _ _ => iR
  refine LCg.CompSrc.range (n := ln.length + 1) (by rfl) F1 N1 iR (small_one (by omega) (by omega) (by omega) (by omega)) (by rw [rangeSize_one]; split <;> omega) (by size_fits) ?_
  clear F1
  intro g1
  refine comp_inv (n := ln.length + 1) (fun i ys nx => nx = news ∧ IntsAre ys ((List.range i).map fun (j : Nat) => 2 * (j : Int))) ?_ ?_ (ln.length + 1) 0 [] news (by omega) ⟨rfl, .nil⟩
  · rintro i v I oI C oC D m₂ h tk E' ys nx hi ⟨rfl, iy⟩ ⟨t, rfl⟩ hC hx F2 N2 off ne
    rw [show (0 : Int) + (i : Int) = (i : Int) from by omega] at hx
    repeat' ((fail_if_success (with_reducible show LCg.CompSrc _ _ _ _ _ _ _ _ _ _ _ _ _ _)); (fail_if_success (with_reducible show LCg.CompEnd _ _ _ _ _ _ _ _ _ _ _ _ _ _)); (fail_if_success (with_reducible show InvPostR _ _ _ _ _ _ _ _)); (fail_if_success (with_reducible show Mid0 _ _ _ _ _ _)); (fail_if_success (with_reducible show WhileStep2 _ _ _ _ _ _ _ _)); (fail_if_success (with_reducible show InvPostN _ _ _ _ _ _ _ _ _)); (fail_if_success (with_reducible show wpAny _ _ (exec (Stmt.While _ _ _ _) _) _ _ _)); (fail_if_success (with_reducible show wpAny _ _ (exec (Stmt.For _ _ _ _ _) _) _ _ _)); first | (k_unfold; (try dsimp only)) | ((with_reducible refine hqk _ _ ?_); (try dsimp only)) | (walk1 <;> (try dsimp only)) | (dsimp only; walk1) | (leave1; walk_say "STEP leave1"; try dsimp only) | fail "no step")
    (rename Fr _ _ _ _ => F1); (rename News _ _ _ _ => N1)
    exact LCg.CompEnd.intro F1 N1 _ (fun p hp => hp) off trivial ⟨rfl, ia_range iy⟩
  rintro ys nx ⟨hnx, iy⟩
  unfold LCg.FinA
  intro D h tk F2 N2 oD
  rw [hnx] at N2 oD
  clear hnx nx iR N1
  dsimp only
  repeat' ((fail_if_success (with_reducible show LCg.CompSrc _ _ _ _ _ _ _ _ _ _ _ _ _ _)); (fail_if_success (with_reducible show LCg.CompEnd _ _ _ _ _ _ _ _ _ _ _ _ _ _)); (fail_if_success (with_reducible show InvPostR _ _ _ _ _ _ _ _)); (fail_if_success (with_reducible show Mid0 _ _ _ _ _ _)); (fail_if_success (with_reducible show WhileStep2 _ _ _ _ _ _ _ _)); (fail_if_success (with_reducible show InvPostN _ _ _ _ _ _ _ _ _)); (fail_if_success (with_reducible show wpAny _ _ (exec (Stmt.While _ _ _ _) _) _ _ _)); (fail_if_success (with_reducible show wpAny _ _ (exec (Stmt.For _ _ _ _ _) _) _ _ _)); first | (k_unfold; (try dsimp only)) | ((with_reducible refine hqk _ _ ?_); (try dsimp only)) | (walk1 <;> (try dsimp only)) | (dsimp only; walk1) | (leave1; walk_say "STEP leave1"; try dsimp only) | fail "no step")
  (rename Fr _ _ _ _ => F1); (rename News _ _ _ _ => N1)
  rename_i t0 P hx1 lP hx2
  have oP : ∀ p ∈ news, p.1 ≠ P := fun p hp => Nat.ne_of_lt (allLt_mem lP.2 p hp)
  have oD' : ∀ p ∈ news, p.1 ≠ D := off1_mem oD
  have hPD : P ≠ D := Nat.ne_of_gt lP.1
  (with_unfolding_all refine' For_turns F1 ?_)
  repeat' ((fail_if_success (with_reducible show wpAny _ _ (pyIter _) _ _ _)); (fail_if_success (with_reducible show LCg.CompSrc _ _ _ _ _ _ _ _ _ _ _ _ _ _)); (fail_if_success (with_reducible show LCg.CompEnd _ _ _ _ _ _ _ _ _ _ _ _ _ _)); (fail_if_success (with_reducible show InvPostR _ _ _ _ _ _ _ _)); (fail_if_success (with_reducible show Mid0 _ _ _ _ _ _)); (fail_if_success (with_reducible show WhileStep2 _ _ _ _ _ _ _ _)); (fail_if_success (with_reducible show InvPostN _ _ _ _ _ _ _ _ _)); (fail_if_success (with_reducible show wpAny _ _ (exec (Stmt.While _ _ _ _) _) _ _ _)); (fail_if_success (with_reducible show wpAny _ _ (exec (Stmt.For _ _ _ _ _) _) _ _ _)); first | (k_unfold; (try dsimp only)) | ((with_reducible refine hqk _ _ ?_); (try dsimp only)) | (walk1 <;> (try dsimp only)) | (dsimp only; walk1) | (leave1; walk_say "STEP leave1"; try dsimp only) | fail "no step")
  refine' list_turns (fun I i m nx => ∃ (D : Addr) (rvs pvs : List Value) (c1 c2 : Nat) (u : Str → Option Value), nx = (P, listOf pvs.toArray c1) :: (D, listOf rvs.toArray c2) :: news ∧ IntsAre rvs (pstAt sn ln i).1 ∧ IntsAre pvs (pstAt sn ln i).2 ∧
      (∀ p ∈ news, p.1 ≠ D) ∧ P ≠ D ∧ D ≠ I ∧ m = lkj [Str.ofString "x", Str.ofString "under", Str.ofString "j", Str.ofString "y", Str.ofString "changed"] u [(Str.ofString "said", .ref sL), (Str.ofString "letters", .ref lL), (Str.ofString "row", .ref D), (Str.ofString "prices", .ref P)])
    rfl F1 N1 (List.Mem.tail _ (List.Mem.tail _ hs)) is ?hj ?hkeep ?turn ?done
  case hj =>
    intro I hI
    refine' ⟨D, ys, [_], _, _, ?uA, rfl, iy, .cons _ _ .nil, oD', hPD, Nat.ne_of_lt (hI (D, _) (List.Mem.tail _ (List.Mem.head _))), ?hmA⟩
    case hmA => (refine feqj [Str.ofString "x", Str.ofString "under", Str.ofString "j", Str.ofString "y", Str.ofString "changed"] [Str.ofString "said", Str.ofString "letters", Str.ofString "row", Str.ofString "prices"] ?fjm ?fjj ?fjo; (case fjm => (repeat' (first | exact List.forall_mem_nil _ | (refine List.forall_mem_cons.mpr ⟨by with_unfolding_all rfl, ?_⟩)))); (case fjj => decide); (case fjo => (intro y hy hz; simp only [List.forall_mem_cons, List.not_mem_nil, false_implies, implies_true, and_true] at hy; simp only [List.contains_cons, List.contains_nil, Bool.or_false, Bool.or_eq_false_iff] at hz; have hy2 := hy; simp only [← beq_eq_false_iff_ne] at hy2; have hz2 := hz; simp only [beq_eq_false_iff_ne] at hz2; simp [hy, hy2, hz, hz2, List.lookup_cons, lk, lkj])))
  case hkeep =>
    rintro I i m nx ⟨D, rvs, pvs, c1, c2, u, rfl, _⟩
    exact List.Mem.tail _ (List.Mem.tail _ hs)
  case done =>
    clear F1 N1 iy oD oD' hPD
    rintro I m nx h tk hI ⟨D, rvs, pvs, c1, c2, u, rfl, ir, ip, oD, hPD, _, rfl⟩ F2 N2
    dsimp only
    repeat' ((fail_if_success (with_reducible show LCg.CompSrc _ _ _ _ _ _ _ _ _ _ _ _ _ _)); (fail_if_success (with_reducible show LCg.CompEnd _ _ _ _ _ _ _ _ _ _ _ _ _ _)); (fail_if_success (with_reducible show InvPostR _ _ _ _ _ _ _ _)); (fail_if_success (with_reducible show Mid0 _ _ _ _ _ _)); (fail_if_success (with_reducible show WhileStep2 _ _ _ _ _ _ _ _)); (fail_if_success (with_reducible show InvPostN _ _ _ _ _ _ _ _ _)); (fail_if_success (with_reducible show wpAny _ _ (exec (Stmt.While _ _ _ _) _) _ _ _)); (fail_if_success (with_reducible show wpAny _ _ (exec (Stmt.For _ _ _ _ _) _) _ _ _)); first | (k_unfold; (try dsimp only)) | ((with_reducible refine hqk _ _ ?_); (try dsimp only)) | (walk1 <;> (try dsimp only)) | (dsimp only; walk1) | (leave1; walk_say "STEP leave1"; try dsimp only) | fail "no step")
    (rename Fr _ _ _ _ => F1); (rename News _ _ _ _ => N1)
    refine hret P pvs c1 _ _ F1 (fun p hp => N1 p ?_) (ia_cast ip (by rw [prices, pstAt, List.take_length])) (allLt_mem lP.2)
    rcases List.mem_cons.mp hp with rfl | hp
    · exact List.Mem.head _
    · exact List.Mem.tail _ (List.Mem.tail _ hp)
  clear F1 N1 iy oD oD' hPD
  rintro I i k t m nx h tk oi hI hk ⟨D, rvs, pvs, c1, c2, u, rfl, ir, ip, oD, hPD, hDI, rfl⟩ F2 N2
  have hPI : P ≠ I := Nat.ne_of_lt (hI (P, _) (List.Mem.head _))
  have oI : ∀ p ∈ news, p.1 ≠ I := fun p hp => Nat.ne_of_lt (hI p (List.Mem.tail _ (List.Mem.tail _ hp)))
  simp only [List.cons_append] at N2
  have F2 : Fr g' L' h _ := F2
  have N2 : News g' L' h _ := N2
  have hlr := pstAt_len sn ln i
  have hk1 := pstAt_succ (ln := ln) hk
  have hisn : i < sn.length := (List.getElem?_eq_some_iff.mp hk).1
  have hpl := pstAt_len2 sn ln i (by omega)
  have hpvl := ip.length
  generalize pstAt sn ln i = st at *
  rename_i hz0 tkz1 tz2 uz3 vz4 az5 Dz6 hz7 tkz8 tkz9 F2z10 N2z11
  revert hpvl; revert hpl; revert hk1; revert hlr; revert ip; revert ir; revert hisn; revert N2; revert F2; revert oI; revert hPI; revert N2z11; revert F2z10; revert hDI; revert hPD; revert oD; revert hk; revert hI; revert oP; revert lP; revert az5; revert hll; revert hek; revert hqk; revert T'; revert X'; revert B'; revert FG'; revert hret; revert hun; revert hdp; revert hTop; revert hIn; revert hBel; revert hbs; revert hb; revert hsn; revert hln; revert il; revert is; revert hl; revert hs
  revert st; revert u; revert c2; revert c1; revert pvs; revert rvs; revert D; revert oi; revert tk; revert h; revert t; revert k; revert i; revert I; revert tkz9; revert hx2; revert P; revert t0; revert Dz6; revert ys; revert hz0
  exact HYP⟩
noncomputable def prices2_B : PySem.Heap × (List PySem.Value) × PySem.Addr × PySem.Tok × PySem.Addr × PySem.Heap × Nat × PySem.Addr × Nat × Int × PySem.Tok × PySem.Heap × Nat × PySem.Obj × PySem.Addr × (List PySem.Value) × (List PySem.Value) × Nat × Nat × (PySem.Str → Option PySem.Value) × (List Int × List Int) → Prop := fun v => prices2_in.1 v.1 v.2.1 v.2.2.1 v.2.2.2.1 v.2.2.2.2.1 v.2.2.2.2.2.1 v.2.2.2.2.2.2.1 v.2.2.2.2.2.2.2.1 v.2.2.2.2.2.2.2.2.1 v.2.2.2.2.2.2.2.2.2.1 v.2.2.2.2.2.2.2.2.2.2.1 v.2.2.2.2.2.2.2.2.2.2.2.1 v.2.2.2.2.2.2.2.2.2.2.2.2.1 v.2.2.2.2.2.2.2.2.2.2.2.2.2.1 v.2.2.2.2.2.2.2.2.2.2.2.2.2.2.1 v.2.2.2.2.2.2.2.2.2.2.2.2.2.2.2.1 v.2.2.2.2.2.2.2.2.2.2.2.2.2.2.2.2.1 v.2.2.2.2.2.2.2.2.2.2.2.2.2.2.2.2.2.1 v.2.2.2.2.2.2.2.2.2.2.2.2.2.2.2.2.2.2.1 v.2.2.2.2.2.2.2.2.2.2.2.2.2.2.2.2.2.2.2.1 v.2.2.2.2.2.2.2.2.2.2.2.2.2.2.2.2.2.2.2.2
noncomputable def prices2_v : PySem.Heap × (List PySem.Value) × PySem.Addr × PySem.Tok × PySem.Addr × PySem.Heap × Nat × PySem.Addr × Nat × Int × PySem.Tok × PySem.Heap × Nat × PySem.Obj × PySem.Addr × (List PySem.Value) × (List PySem.Value) × Nat × Nat × (PySem.Str → Option PySem.Value) × (List Int × List Int) := Classical.choose (drink ⟨(default, default, default, default, default, default, default, default, default, default, default, default, default, default, default, default, default, default, default, default, default)⟩ prices2_B)
theorem prices2_s : prices2_B prices2_v → ∀ v, prices2_B v := by
  with_unfolding_all exact Classical.choose_spec (drink ⟨(default, default, default, default, default, default, default, default, default, default, default, default, default, default, default, default, default, default, default, default, default)⟩ prices2_B)
namespace prices2K
noncomputable def hz0 : PySem.Heap := prices2_v.1
noncomputable def ys : List PySem.Value := prices2_v.2.1
noncomputable def Dz6 : PySem.Addr := prices2_v.2.2.1
noncomputable def t0 : PySem.Tok := prices2_v.2.2.2.1
noncomputable def P : PySem.Addr := prices2_v.2.2.2.2.1
noncomputable def hx2 : PySem.Heap := prices2_v.2.2.2.2.2.1
noncomputable def tkz9 : Nat := prices2_v.2.2.2.2.2.2.1
noncomputable def I : PySem.Addr := prices2_v.2.2.2.2.2.2.2.1
noncomputable def i : Nat := prices2_v.2.2.2.2.2.2.2.2.1
noncomputable def k : Int := prices2_v.2.2.2.2.2.2.2.2.2.1
noncomputable def t : PySem.Tok := prices2_v.2.2.2.2.2.2.2.2.2.2.1
noncomputable def h : PySem.Heap := prices2_v.2.2.2.2.2.2.2.2.2.2.2.1
noncomputable def tk : Nat := prices2_v.2.2.2.2.2.2.2.2.2.2.2.2.1
noncomputable def oi : PySem.Obj := prices2_v.2.2.2.2.2.2.2.2.2.2.2.2.2.1
noncomputable def D : PySem.Addr := prices2_v.2.2.2.2.2.2.2.2.2.2.2.2.2.2.1
noncomputable def rvs : List PySem.Value := prices2_v.2.2.2.2.2.2.2.2.2.2.2.2.2.2.2.1
noncomputable def pvs : List PySem.Value := prices2_v.2.2.2.2.2.2.2.2.2.2.2.2.2.2.2.2.1
noncomputable def c1 : Nat := prices2_v.2.2.2.2.2.2.2.2.2.2.2.2.2.2.2.2.2.1
noncomputable def c2 : Nat := prices2_v.2.2.2.2.2.2.2.2.2.2.2.2.2.2.2.2.2.2.1
noncomputable def u : PySem.Str → Option PySem.Value := prices2_v.2.2.2.2.2.2.2.2.2.2.2.2.2.2.2.2.2.2.2.1
noncomputable def st : List Int × List Int := prices2_v.2.2.2.2.2.2.2.2.2.2.2.2.2.2.2.2.2.2.2.2
end prices2K
open Mine.pricesK in
open Mine.prices2K in
noncomputable def prices3_in : { PRED : Nat → PySem.Addr → PySem.Heap → Nat → PySem.Addr → Nat → Int → PySem.Tok → PySem.Tok → PySem.Addr → PySem.Heap → Nat → PySem.Obj → PySem.Obj → (List PySem.Value) → Nat → (PySem.Str → Option PySem.Value) → (List Int) → Prop // (∀ (tkz1 : Nat) (U : PySem.Addr) (hz2 : PySem.Heap) (tkz2 : Nat) (I2 : PySem.Addr) (j : Nat) (y : Int) (t2 : PySem.Tok) (u2 : PySem.Tok) (T : PySem.Addr) (h : PySem.Heap) (tk : Nat) (o1 : PySem.Obj) (o2 : PySem.Obj) (uvs : List PySem.Value) (c3 : Nat) (u : PySem.Str → Option PySem.Value) (uu : List Int), PRED tkz1 U hz2 tkz2 I2 j y t2 u2 T h tk o1 o2 uvs c3 u uu) → prices2_in.1 prices2K.hz0 prices2K.ys prices2K.Dz6 prices2K.t0 prices2K.P prices2K.hx2 prices2K.tkz9 prices2K.I prices2K.i prices2K.k prices2K.t prices2K.h prices2K.tk prices2K.oi prices2K.D prices2K.rvs prices2K.pvs prices2K.c1 prices2K.c2 prices2K.u prices2K.st } :=
  ⟨_, fun HYP => by
  unfold prices2_in
  dsimp only
  k_fill
  intro hs hl is il hln hsn hb hbs hBel hIn hTop hdp hun hret FG' B' X' T' hqk hek hll az5 lP oP hI hk oD hPD hDI F2z10 N2z11 hPI oI F2 N2 hisn ir ip hlr hk1 hpl hpvl
  --CUT2
  repeat' ((fail_if_success (with_reducible show LCg.CompSrc _ _ _ _ _ _ _ _ _ _ _ _ _ _)); (fail_if_success (with_reducible show LCg.CompEnd _ _ _ _ _ _ _ _ _ _ _ _ _ _)); (fail_if_success (with_reducible show InvPostR _ _ _ _ _ _ _ _)); (fail_if_success (with_reducible show Mid0 _ _ _ _ _ _)); (fail_if_success (with_reducible show WhileStep2 _ _ _ _ _ _ _ _)); (fail_if_success (with_reducible show InvPostN _ _ _ _ _ _ _ _ _)); (fail_if_success (with_reducible show wpAny _ _ (exec (Stmt.While _ _ _ _) _) _ _ _)); (fail_if_success (with_reducible show wpAny _ _ (exec (Stmt.For _ _ _ _ _) _) _ _ _)); first | (k_unfold; (try dsimp only)) | ((with_reducible refine hqk _ _ ?_); (try dsimp only)) | (walk1 <;> (try dsimp only)) | (dsimp only; walk1) | (leave1; walk_say "STEP leave1"; try dsimp only) | fail "no step")
  (rename Fr _ _ _ _ => F1); (rename News _ _ _ _ => N1)
  rename_i t1 U hz1 lU hz2
  have hUP : P < U := lU.1
  have hUD : D < U := lU.2.1
  have oU : ∀ p ∈ news ++ [(I, oi)], p.1 < U := allLt_mem lU.2.2
  refine' mid0 (h₀ := g') (L := L') (fun m nx => ∃ (uvs : List Value) (c3 : Nat) (u : Str → Option Value), nx = (U, listOf uvs.toArray c3) :: (P, listOf pvs.toArray c1) :: (D, listOf rvs.toArray c2) :: (news ++ [(I, oi)]) ∧ IntsAre uvs (pinAt k ln st.1 ln.length) ∧
      m = lkj [Str.ofString "j", Str.ofString "y", Str.ofString "changed"] u [(Str.ofString "x", .int k t), (Str.ofString "under", .ref U), (Str.ofString "said", .ref sL), (Str.ofString "letters", .ref lL), (Str.ofString "row", .ref D), (Str.ofString "prices", .ref P)]) ?lpB ?coB
  case lpB =>
    (with_unfolding_all refine' For_turns F1 ?_)
    repeat' ((fail_if_success (with_reducible show wpAny _ _ (pyIter _) _ _ _)); (fail_if_success (with_reducible show LCg.CompSrc _ _ _ _ _ _ _ _ _ _ _ _ _ _)); (fail_if_success (with_reducible show LCg.CompEnd _ _ _ _ _ _ _ _ _ _ _ _ _ _)); (fail_if_success (with_reducible show InvPostR _ _ _ _ _ _ _ _)); (fail_if_success (with_reducible show Mid0 _ _ _ _ _ _)); (fail_if_success (with_reducible show WhileStep2 _ _ _ _ _ _ _ _)); (fail_if_success (with_reducible show InvPostN _ _ _ _ _ _ _ _ _)); (fail_if_success (with_reducible show wpAny _ _ (exec (Stmt.While _ _ _ _) _) _ _ _)); (fail_if_success (with_reducible show wpAny _ _ (exec (Stmt.For _ _ _ _ _) _) _ _ _)); first | (k_unfold; (try dsimp only)) | ((with_reducible refine hqk _ _ ?_); (try dsimp only)) | (walk1 <;> (try dsimp only)) | (dsimp only; walk1) | (leave1; walk_say "STEP leave1"; try dsimp only) | fail "no step")
    refine' enum_turns (fun I2 i m nx => ∃ (uvs : List Value) (c3 : Nat) (u : Str → Option Value), nx = (U, listOf uvs.toArray c3) :: (P, listOf pvs.toArray c1) :: (D, listOf rvs.toArray c2) :: (news ++ [(I, oi)]) ∧ IntsAre uvs (pinAt k ln st.1 i) ∧
      m = lkj [Str.ofString "j", Str.ofString "y", Str.ofString "changed"] u [(Str.ofString "x", .int k t), (Str.ofString "under", .ref U), (Str.ofString "said", .ref sL), (Str.ofString "letters", .ref lL), (Str.ofString "row", .ref D), (Str.ofString "prices", .ref P)])
      rfl F1 N1 (List.Mem.tail _ (List.Mem.tail _ (List.Mem.tail _ (List.mem_append_left _ hl)))) il ?hjB ?hkeepB ?turnB ?doneB
    case hjB =>
      intro I2 hI2
      refine' ⟨[_], _, ?uB, rfl, .cons _ _ .nil, ?hmB⟩
      case hmB => (refine feqj [Str.ofString "j", Str.ofString "y", Str.ofString "changed"] [Str.ofString "x", Str.ofString "under", Str.ofString "said", Str.ofString "letters", Str.ofString "row", Str.ofString "prices"] ?fjm ?fjj ?fjo; (case fjm => (repeat' (first | exact List.forall_mem_nil _ | (refine List.forall_mem_cons.mpr ⟨by with_unfolding_all rfl, ?_⟩)))); (case fjj => decide); (case fjo => (intro y hy hz; simp only [List.forall_mem_cons, List.not_mem_nil, false_implies, implies_true, and_true] at hy; simp only [List.contains_cons, List.contains_nil, Bool.or_false, Bool.or_eq_false_iff] at hz; have hy2 := hy; simp only [← beq_eq_false_iff_ne] at hy2; have hz2 := hz; simp only [beq_eq_false_iff_ne] at hz2; simp [hy, hy2, hz, hz2, List.lookup_cons, lk, lkj])))
    case hkeepB =>
      rintro I2 i m nx ⟨uvs, c3, u, rfl, _⟩
      exact List.Mem.tail _ (List.Mem.tail _ (List.Mem.tail _ (List.mem_append_left _ hl)))
    case doneB =>
      clear F1 N1
      rintro I2 m nx h tk hI2 ⟨uvs, c3, u, rfl, iu, rfl⟩ F2 N2
      exact Mid0.out F2 N2 ⟨uvs, c3, u, rfl, iu, rfl⟩
    clear F1 N1
    rintro I2 j y t2 u2 T m nx h tk o1 o2 hI2 hy ⟨uvs, c3, u, rfl, iu, rfl⟩ hT F2 N2
    have hn1 := pinAt_succ k ln st.1 j
    have hn2 := pinAt_len k ln st.1 j
    have hyl : j < ln.length := (List.getElem?_eq_some_iff.mp hy).1
    have hyd : ln.getD j 0 = y := by simp [List.getD, hy]
    have F2 : Fr g' L' h _ := F2
    have N2 : News g' L' h _ := N2
    simp only [List.cons_append] at N2
    generalize pinAt k ln st.1 j = uu at *
    rename_i hz0 tkz1 tkz2 F2z3 N2z4
    revert hn2; revert hn1; revert iu; revert N2; revert F2; revert hyd; revert hyl; revert N2z4; revert F2z3; revert hT; revert hy; revert hI2; revert oU; revert hUD; revert hUP; revert lU; revert hpvl; revert hpl; revert hk1; revert hlr; revert ip; revert ir; revert hisn; revert oI; revert hPI; revert N2z11; revert F2z10; revert hDI; revert hPD; revert oD; revert hk; revert hI; revert oP; revert lP; revert az5; revert hll; revert hek; revert hqk; revert T'; revert X'; revert B'; revert FG'; revert hret; revert hun; revert hdp; revert hTop; revert hIn; revert hBel; revert hbs; revert hb; revert hsn; revert hln; revert il; revert is; revert hl; revert hs
    revert uu; revert u; revert c3; revert uvs; revert o2; revert o1; revert tk; revert h; revert T; revert u2; revert t2; revert y; revert j; revert I2; revert tkz2; revert hz2; revert U; revert tkz1
    exact HYP
  clear F1 N1
  rintro h tk m nx ⟨uvs, c3, u, rfl, iu, rfl⟩ F2 N2
  have hpp := pinAt_len k ln st.1 ln.length
  have huvl := iu.length
  have hk2 : pst ln st k = (pinAt k ln st.1 ln.length, st.2 ++ [lastD (pinAt k ln st.1 ln.length)]) := rfl
  generalize pinAt k ln st.1 ln.length = pp at *
  have hUP' : @Ne Nat U P := Nat.ne_of_gt hUP
  have hDP' : @Ne Nat D P := fun e => hPD e.symm
  have oP2 : ∀ p ∈ news ++ [(I, oi)], p.1 ≠ P := by
    intro p hp
    rcases List.mem_append.mp hp with hp | hp
    · exact oP p hp
    · rw [List.mem_singleton.mp hp]; exact fun e => hPI e.symm
  dsimp only
  repeat' ((fail_if_success (with_reducible show LCg.CompSrc _ _ _ _ _ _ _ _ _ _ _ _ _ _)); (fail_if_success (with_reducible show LCg.CompEnd _ _ _ _ _ _ _ _ _ _ _ _ _ _)); (fail_if_success (with_reducible show InvPostR _ _ _ _ _ _ _ _)); (fail_if_success (with_reducible show Mid0 _ _ _ _ _ _)); (fail_if_success (with_reducible show WhileStep2 _ _ _ _ _ _ _ _)); (fail_if_success (with_reducible show InvPostN _ _ _ _ _ _ _ _ _)); (fail_if_success (with_reducible show wpAny _ _ (exec (Stmt.While _ _ _ _) _) _ _ _)); (fail_if_success (with_reducible show wpAny _ _ (exec (Stmt.For _ _ _ _ _) _) _ _ _)); first | (k_unfold; (try dsimp only)) | ((with_reducible refine hqk _ _ ?_); (try dsimp only)) | (walk1 <;> (try dsimp only)) | (dsimp only; walk1) | (leave1; walk_say "STEP leave1"; try dsimp only) | fail "no step")
  (rename Fr _ _ _ _ => F1); (rename News _ _ _ _ => N1)
  simp only [List.push_toArray] at N1
  have hUI : U ≠ I := Nat.ne_of_gt (oU (I, oi) (List.mem_append_right _ (List.Mem.head _)))
  refine' InvPostR.swap3 F1 N1 ?hfH ⟨U, uvs, _, _, _, ?uH, rfl, ia_cast iu (by rw [hk1, hk2]), ia_cast (ia_snoc ip) (by rw [hk1, hk2]; rfl), fun p hp => Nat.ne_of_lt (oU p (List.mem_append_left _ hp)), fun e => hUP' e.symm, hUI, ?hmH⟩
  case hmH => (refine feqj [Str.ofString "x", Str.ofString "under", Str.ofString "j", Str.ofString "y", Str.ofString "changed"] [Str.ofString "said", Str.ofString "letters", Str.ofString "row", Str.ofString "prices"] ?fjm ?fjj ?fjo; (case fjm => (repeat' (first | exact List.forall_mem_nil _ | (refine List.forall_mem_cons.mpr ⟨by with_unfolding_all rfl, ?_⟩)))); (case fjj => decide); (case fjo => (intro y hy hz; simp only [List.forall_mem_cons, List.not_mem_nil, false_implies, implies_true, and_true] at hy; simp only [List.contains_cons, List.contains_nil, Bool.or_false, Bool.or_eq_false_iff] at hz; have hy2 := hy; simp only [← beq_eq_false_iff_ne] at hy2; have hz2 := hz; simp only [beq_eq_false_iff_ne] at hz2; simp [hy, hy2, hz, hz2, List.lookup_cons, lk, lkj])))
  case hfH =>
    intro p hp q hq
    rw [List.mem_singleton.mp hq]
    rcases List.mem_cons.mp hp with rfl | hp
    · exact hPI
    · rcases List.mem_cons.mp hp with rfl | hp
      · exact hUI
      · exact oI p hp⟩
noncomputable def prices3_B : Nat × PySem.Addr × PySem.Heap × Nat × PySem.Addr × Nat × Int × PySem.Tok × PySem.Tok × PySem.Addr × PySem.Heap × Nat × PySem.Obj × PySem.Obj × (List PySem.Value) × Nat × (PySem.Str → Option PySem.Value) × (List Int) → Prop := fun v => prices3_in.1 v.1 v.2.1 v.2.2.1 v.2.2.2.1 v.2.2.2.2.1 v.2.2.2.2.2.1 v.2.2.2.2.2.2.1 v.2.2.2.2.2.2.2.1 v.2.2.2.2.2.2.2.2.1 v.2.2.2.2.2.2.2.2.2.1 v.2.2.2.2.2.2.2.2.2.2.1 v.2.2.2.2.2.2.2.2.2.2.2.1 v.2.2.2.2.2.2.2.2.2.2.2.2.1 v.2.2.2.2.2.2.2.2.2.2.2.2.2.1 v.2.2.2.2.2.2.2.2.2.2.2.2.2.2.1 v.2.2.2.2.2.2.2.2.2.2.2.2.2.2.2.1 v.2.2.2.2.2.2.2.2.2.2.2.2.2.2.2.2.1 v.2.2.2.2.2.2.2.2.2.2.2.2.2.2.2.2.2
noncomputable def prices3_v : Nat × PySem.Addr × PySem.Heap × Nat × PySem.Addr × Nat × Int × PySem.Tok × PySem.Tok × PySem.Addr × PySem.Heap × Nat × PySem.Obj × PySem.Obj × (List PySem.Value) × Nat × (PySem.Str → Option PySem.Value) × (List Int) := Classical.choose (drink ⟨(default, default, default, default, default, default, default, default, default, default, default, default, default, default, default, default, default, default)⟩ prices3_B)
theorem prices3_s : prices3_B prices3_v → ∀ v, prices3_B v := by
  with_unfolding_all exact Classical.choose_spec (drink ⟨(default, default, default, default, default, default, default, default, default, default, default, default, default, default, default, default, default, default)⟩ prices3_B)
namespace prices3K
noncomputable def tkz1 : Nat := prices3_v.1
noncomputable def U : PySem.Addr := prices3_v.2.1
noncomputable def hz2 : PySem.Heap := prices3_v.2.2.1
noncomputable def tkz2 : Nat := prices3_v.2.2.2.1
noncomputable def I2 : PySem.Addr := prices3_v.2.2.2.2.1
noncomputable def j : Nat := prices3_v.2.2.2.2.2.1
noncomputable def y : Int := prices3_v.2.2.2.2.2.2.1
noncomputable def t2 : PySem.Tok := prices3_v.2.2.2.2.2.2.2.1
noncomputable def u2 : PySem.Tok := prices3_v.2.2.2.2.2.2.2.2.1
noncomputable def T : PySem.Addr := prices3_v.2.2.2.2.2.2.2.2.2.1
noncomputable def h : PySem.Heap := prices3_v.2.2.2.2.2.2.2.2.2.2.1
noncomputable def tk : Nat := prices3_v.2.2.2.2.2.2.2.2.2.2.2.1
noncomputable def o1 : PySem.Obj := prices3_v.2.2.2.2.2.2.2.2.2.2.2.2.1
noncomputable def o2 : PySem.Obj := prices3_v.2.2.2.2.2.2.2.2.2.2.2.2.2.1
noncomputable def uvs : List PySem.Value := prices3_v.2.2.2.2.2.2.2.2.2.2.2.2.2.2.1
noncomputable def c3 : Nat := prices3_v.2.2.2.2.2.2.2.2.2.2.2.2.2.2.2.1
noncomputable def u : PySem.Str → Option PySem.Value := prices3_v.2.2.2.2.2.2.2.2.2.2.2.2.2.2.2.2.1
noncomputable def uu : List Int := prices3_v.2.2.2.2.2.2.2.2.2.2.2.2.2.2.2.2.2
end prices3K
open Mine.pricesK in
open Mine.prices2K hiding h tk u in
open Mine.prices3K in
theorem prices3_c : prices3_in.1 prices3K.tkz1 prices3K.U prices3K.hz2 prices3K.tkz2 prices3K.I2 prices3K.j prices3K.y prices3K.t2 prices3K.u2 prices3K.T prices3K.h prices3K.tk prices3K.o1 prices3K.o2 prices3K.uvs prices3K.c3 prices3K.u prices3K.uu := by
  unfold prices3_in
  dsimp only
  k_fill
  intro hs hl is il hln hsn hb hbs hBel hIn hTop hdp hun hret FG' B' X' T' hqk hek hll az5 lP oP hI hk oD hPD hDI F2z10 N2z11 hPI oI hisn ir ip hlr hk1 hpl hpvl lU hUP hUD oU hI2 hy hT F2z3 N2z4 hyl hyd F2 N2 iu hn1 hn2
  --CUT3
  repeat' ((fail_if_success (with_reducible show wpAny _ _ (exec _ _) _ _ _)); (fail_if_success (with_reducible show LCg.CompSrc _ _ _ _ _ _ _ _ _ _ _ _ _ _)); (fail_if_success (with_reducible show LCg.CompEnd _ _ _ _ _ _ _ _ _ _ _ _ _ _)); (fail_if_success (with_reducible show InvPostR _ _ _ _ _ _ _ _)); (fail_if_success (with_reducible show Mid0 _ _ _ _ _ _)); (fail_if_success (with_reducible show WhileStep2 _ _ _ _ _ _ _ _)); (fail_if_success (with_reducible show InvPostN _ _ _ _ _ _ _ _ _)); (fail_if_success (with_reducible show wpAny _ _ (exec (Stmt.While _ _ _ _) _) _ _ _)); (fail_if_success (with_reducible show wpAny _ _ (exec (Stmt.For _ _ _ _ _) _) _ _ _)); first | (k_unfold; (try dsimp only)) | ((with_reducible refine hqk _ _ ?_); (try dsimp only)) | (walk1 <;> (try dsimp only)) | (dsimp only; walk1) | (leave1; walk_say "STEP leave1"; try dsimp only) | fail "no step")
  refine' mid0 (h₀ := g') (L := L') (fun m nx => nx = (U, listOf uvs.toArray c3) :: (P, listOf pvs.toArray c1) :: (D, listOf rvs.toArray c2) :: (news ++ [(I, oi)] ++ [(I2 + 1, o1), (I2, o2)]) ∧ ∃ (t3 : Tok),
    m = lk [(Str.ofString "changed", .int (pc k y) t3), (Str.ofString "j", .int j u2), (Str.ofString "y", .int y t2), (Str.ofString "x", .int k t), (Str.ofString "under", .ref U), (Str.ofString "said", .ref sL), (Str.ofString "letters", .ref lL), (Str.ofString "row", .ref D), (Str.ofString "prices", .ref P)]) ?lpC ?coC
  case lpC =>
    repeat' ((fail_if_success (with_reducible show LCg.CompSrc _ _ _ _ _ _ _ _ _ _ _ _ _ _)); (fail_if_success (with_reducible show LCg.CompEnd _ _ _ _ _ _ _ _ _ _ _ _ _ _)); (fail_if_success (with_reducible show InvPostR _ _ _ _ _ _ _ _)); (fail_if_success (with_reducible show Mid0 _ _ _ _ _ _)); (fail_if_success (with_reducible show WhileStep2 _ _ _ _ _ _ _ _)); (fail_if_success (with_reducible show InvPostN _ _ _ _ _ _ _ _ _)); (fail_if_success (with_reducible show wpAny _ _ (exec (Stmt.While _ _ _ _) _) _ _ _)); (fail_if_success (with_reducible show wpAny _ _ (exec (Stmt.For _ _ _ _ _) _) _ _ _)); first | (k_unfold; (try dsimp only)) | ((with_reducible refine hqk _ _ ?_); (try dsimp only)) | (walk1 <;> (try dsimp only)) | (dsimp only; walk1) | (leave1; walk_say "STEP leave1"; try dsimp only) | fail "no step")
    · (rename Fr _ _ _ _ => F1); (rename News _ _ _ _ => N1)
      refine' Mid0.out F1 N1 ⟨rfl, ?t3A, ?hmC⟩
      case hmC =>
        rw [pc, if_pos (by assumption)]
        (refine' feq [Str.ofString "changed", Str.ofString "j", Str.ofString "y", Str.ofString "x", Str.ofString "under", Str.ofString "said", Str.ofString "letters", Str.ofString "row", Str.ofString "prices"] ?fqm ?fqo; (case fqm => (repeat' (first | exact List.forall_mem_nil _ | (refine List.forall_mem_cons.mpr ⟨by with_unfolding_all rfl, ?_⟩)))); (case fqo => (intro y hy; simp only [List.forall_mem_cons, List.not_mem_nil, false_implies, implies_true, and_true] at hy; have hy2 := hy; simp only [← beq_eq_false_iff_ne] at hy2; simp [hy, hy2, List.lookup_cons, lk, lkj, List.contains_cons, List.contains_nil])))
    · (rename Fr _ _ _ _ => F1); (rename News _ _ _ _ => N1)
      refine' Mid0.out F1 N1 ⟨rfl, ?t3B, ?hmD⟩
      case hmD =>
        rw [pc, if_neg (by assumption), if_pos (by assumption)]
        (refine' feq [Str.ofString "changed", Str.ofString "j", Str.ofString "y", Str.ofString "x", Str.ofString "under", Str.ofString "said", Str.ofString "letters", Str.ofString "row", Str.ofString "prices"] ?fqm ?fqo; (case fqm => (repeat' (first | exact List.forall_mem_nil _ | (refine List.forall_mem_cons.mpr ⟨by with_unfolding_all rfl, ?_⟩)))); (case fqo => (intro y hy; simp only [List.forall_mem_cons, List.not_mem_nil, false_implies, implies_true, and_true] at hy; have hy2 := hy; simp only [← beq_eq_false_iff_ne] at hy2; simp [hy, hy2, List.lookup_cons, lk, lkj, List.contains_cons, List.contains_nil])))
    · (rename Fr _ _ _ _ => F1); (rename News _ _ _ _ => N1)
      refine' Mid0.out F1 N1 ⟨rfl, ?t3C, ?hmE⟩
      case hmE =>
        rw [pc, if_neg (by assumption), if_neg (by assumption)]
        (refine' feq [Str.ofString "changed", Str.ofString "j", Str.ofString "y", Str.ofString "x", Str.ofString "under", Str.ofString "said", Str.ofString "letters", Str.ofString "row", Str.ofString "prices"] ?fqm ?fqo; (case fqm => (repeat' (first | exact List.forall_mem_nil _ | (refine List.forall_mem_cons.mpr ⟨by with_unfolding_all rfl, ?_⟩)))); (case fqo => (intro y hy; simp only [List.forall_mem_cons, List.not_mem_nil, false_implies, implies_true, and_true] at hy; have hy2 := hy; simp only [← beq_eq_false_iff_ne] at hy2; simp [hy, hy2, List.lookup_cons, lk, lkj, List.contains_cons, List.contains_nil])))
  rintro h tk m nx ⟨rfl, t3, rfl⟩ F3 N3
  have hI2U : U < I2 := hI2 (U, _) (List.Mem.head _)
  have oU2 : ∀ p ∈ news ++ [(I, oi)] ++ [(I2 + 1, o1), (I2, o2)], p.1 ≠ U := by
    intro p hp
    rcases List.mem_append.mp hp with hp | hp
    · exact Nat.ne_of_lt (oU p hp)
    · rcases List.mem_cons.mp hp with rfl | hp
      · exact Nat.ne_of_gt (Nat.lt_succ_of_lt hI2U)
      · rw [List.mem_singleton.mp hp]; exact Nat.ne_of_gt hI2U
  have huv : uvs.length = j + 1 := by rw [iu.length, hn2]
  dsimp only
  repeat' ((fail_if_success (with_reducible show LCg.CompSrc _ _ _ _ _ _ _ _ _ _ _ _ _ _)); (fail_if_success (with_reducible show LCg.CompEnd _ _ _ _ _ _ _ _ _ _ _ _ _ _)); (fail_if_success (with_reducible show InvPostR _ _ _ _ _ _ _ _)); (fail_if_success (with_reducible show Mid0 _ _ _ _ _ _)); (fail_if_success (with_reducible show WhileStep2 _ _ _ _ _ _ _ _)); (fail_if_success (with_reducible show InvPostN _ _ _ _ _ _ _ _ _)); (fail_if_success (with_reducible show wpAny _ _ (exec (Stmt.While _ _ _ _) _) _ _ _)); (fail_if_success (with_reducible show wpAny _ _ (exec (Stmt.For _ _ _ _ _) _) _ _ _)); first | (k_unfold; (try dsimp only)) | ((with_reducible refine hqk _ _ ?_); (try dsimp only)) | (walk1 <;> (try dsimp only)) | (dsimp only; walk1) | (leave1; walk_say "STEP leave1"; try dsimp only) | fail "no step")
  (rename Fr _ _ _ _ => F1); (rename News _ _ _ _ => N1)
  simp only [List.push_toArray, Int.toNat_natCast, show ((j : Int) + 1).toNat = j + 1 from by omega] at N1
  refine' InvPostR.next3 F1 N1 ?hfG ⟨_, _, ?uG, rfl, ia_cast (ia_snoc iu) (by rw [hn1, pin, hyd]), ?hmG⟩
  case hfG =>
    intro p hp
    refine lt_its ?_
    rcases List.mem_cons.mp hp with rfl | hp
    · exact hI2U
    · exact hI2 p (List.Mem.tail _ hp)
  case hmG => (refine feqj [Str.ofString "j", Str.ofString "y", Str.ofString "changed"] [Str.ofString "x", Str.ofString "under", Str.ofString "said", Str.ofString "letters", Str.ofString "row", Str.ofString "prices"] ?fjm ?fjj ?fjo; (case fjm => (repeat' (first | exact List.forall_mem_nil _ | (refine List.forall_mem_cons.mpr ⟨by with_unfolding_all rfl, ?_⟩)))); (case fjj => decide); (case fjo => (intro y hy hz; simp only [List.forall_mem_cons, List.not_mem_nil, false_implies, implies_true, and_true] at hy; simp only [List.contains_cons, List.contains_nil, Bool.or_false, Bool.or_eq_false_iff] at hz; have hy2 := hy; simp only [← beq_eq_false_iff_ne] at hy2; have hz2 := hz; simp only [beq_eq_false_iff_ne] at hz2; simp [hy, hy2, hz, hz2, List.lookup_cons, lk, lkj])))
theorem prices2_c : prices2_in.1 prices2K.hz0 prices2K.ys prices2K.Dz6 prices2K.t0 prices2K.P prices2K.hx2 prices2K.tkz9 prices2K.I prices2K.i prices2K.k prices2K.t prices2K.h prices2K.tk prices2K.oi prices2K.D prices2K.rvs prices2K.pvs prices2K.c1 prices2K.c2 prices2K.u prices2K.st := prices3_in.2 (fun tkz1 U hz2 tkz2 I2 j y t2 u2 T h tk o1 o2 uvs c3 u uu => prices3_s prices3_c (tkz1, U, hz2, tkz2, I2, j, y, t2, u2, T, h, tk, o1, o2, uvs, c3, u, uu))
theorem prices_c : prices_in.1 pricesK.w pricesK.mean pricesK.mg pricesK.mb pricesK.news pricesK.sL pricesK.lL pricesK.svs pricesK.lvs pricesK.sn pricesK.ln pricesK.sc pricesK.lc pricesK.dpt pricesK.unt pricesK.gd pricesK.cn pricesK.cs pricesK.xa pricesK.ccd pricesK.cl pricesK.outerE pricesK.A₀ pricesK.base pricesK.h₀ pricesK.L pricesK.m pricesK.s pricesK.Q pricesK.E pricesK.g' pricesK.L' pricesK.h' pricesK.qk pricesK.ek := prices2_in.2 (fun hz0 ys Dz6 t0 P hx2 tkz9 I i k t h tk oi D rvs pvs c1 c2 u st => prices2_s prices2_c (hz0, ys, Dz6, t0, P, hx2, tkz9, I, i, k, t, h, tk, oi, D, rvs, pvs, c1, c2, u, st))
theorem prices_spc (w : World) (mean : ExcName → Option Value) (mg mb : Str → Option Value) (news : List (Addr × Obj)) (sL lL : Addr) (svs lvs : List Value) (sn ln : List Int) (sc lc : Nat) (hs : (sL, listOf svs.toArray sc) ∈ news) (hl : (lL, listOf lvs.toArray lc) ∈ news)
    (is : IntsAre svs sn) (il : IntsAre lvs ln) (hln : ln.length ≤ 10) (hsn : sn.length ≤ 10) (hb : ∀ x ∈ ln, 0 ≤ x ∧ x < 4) (hbs : ∀ x ∈ sn, 0 ≤ x ∧ x < 4) :
    Spc w mean mg mb 91 2 news [.ref sL, .ref lL] (RetL news (prices sn ln)) :=
  (prices_in.2 (fun w mean mg mb news sL lL svs lvs sn ln sc lc dpt unt gd cn cs xa ccd cl outerE A₀ base h₀ L m s Q E g' L' h' qk ek => prices_s prices_c (w, mean, mg, mb, news, sL, lL, svs, lvs, sn, ln, sc, lc, dpt, unt, gd, cn, cs, xa, ccd, cl, outerE, A₀, base, h₀, L, m, s, Q, E, g', L', h', qk, ek))) w mean mg mb news sL lL svs lvs sn ln sc lc hs hl is il hln hsn hb hbs
end Mine
end

local macro_rules | `(tactic| walk_at "zz") => `(tactic| fail "no such key")
local macro_rules | `(tactic| walk_at "zz") => `(tactic| fail "no such key")

section
theorem Mine.offS4 : True := by
  w_top off
  trivial
open PySem PySem.W PyProof.Rows
set_option Elab.async false
set_option maxRecDepth 100000
set_option maxHeartbeats 8000000
namespace Mine
theorem spelled_spc (w : World) (mean : ExcName → Option Value) (mg mb : Str → Option Value) (news : List (Addr × Obj)) (lL : Addr) (lvs : List Value) (ln : List Int) (lc : Nat) (hl : (lL, listOf lvs.toArray lc) ∈ news)
    (il : IntsAre lvs ln) (hln : ln.length ≤ 40) (hb : ∀ x ∈ ln, 0 ≤ x ∧ x < 4) :
    Spc w mean mg mb 86 2 news [.ref lL] (RetV news fun t => .str (S (spell ln)) t) := by
  dsimp only [Spc, RetV]
  k_fill
  intros; rename_i hret
  have hll := il.length
  refine wpAny_call ?_
  k_dflt (refine' code_def (binds := [(Str.ofString "letters", .ref lL)]) ?k1 ?k2 ?k3 ?k4 ?k5 ?kA ?kF ?kK ?k6 ?k7 ?k8 ?k9 ?kB ?_ ?c2 ?c3 ?c4 ?c5; (case kA => exact rfl); (case kF => exact rfl); (case kK => assumption); (case k1 => k_asm); (case k2 => k_asm); (case k3 => k_asm); (case k4 => k_asm); (case k5 => k_asm); (case k6 => k_is); (case k7 => k_is); (case k8 => first | exact Nat.le_of_ble_eq_true rfl | ktr_room); (case k9 => exact BindsTo.of_eq rfl); (case c5 => decide); (case kB => exact locs rfl); (case c2 => exact rfl); (case c3 => exact rfl); (case c4 => exact rfl); k_whole; intro g' L' h' FG' F' N' B' X' T'; (try dsimp only); (try k_lift B'); (try k_fold))
  repeat' ((fail_if_success (with_reducible show wpAny _ _ (eval (Expr.ListComp _ _ _ _) _) _ _ _)); first | (k_unfold; (try dsimp only)) | ((with_reducible refine hqk _ _ ?_); (try dsimp only)) | (walk1 <;> (try dsimp only)) | (dsimp only; walk1) | (leave1; walk_say "STEP leave1"; try dsimp only) | fail "no step")
  (k_dflt (refine LCg.ListComp_U (F₀ := by k_asm) (by rfl) (by decide) (by rfl) (by decide) (by rfl) ?_))
  repeat' ((fail_if_success (with_reducible show LCg.CompSrc _ _ _ _ _ _ _ _ _ _ _ _ _ _)); (fail_if_success (with_reducible show LCg.CompEnd _ _ _ _ _ _ _ _ _ _ _ _ _ _)); (fail_if_success (with_reducible show InvPostR _ _ _ _ _ _ _ _)); (fail_if_success (with_reducible show Mid0 _ _ _ _ _ _)); (fail_if_success (with_reducible show WhileStep2 _ _ _ _ _ _ _ _)); (fail_if_success (with_reducible show InvPostN _ _ _ _ _ _ _ _ _)); (fail_if_success (with_reducible show wpAny _ _ (exec (Stmt.While _ _ _ _) _) _ _ _)); (fail_if_success (with_reducible show wpAny _ _ (exec (Stmt.For _ _ _ _ _) _) _ _ _)); first | (k_unfold; (try dsimp only)) | ((with_reducible refine hqk _ _ ?_); (try dsimp only)) | (walk1 <;> (try dsimp only)) | (dsimp only; walk1) | (leave1; walk_say "STEP leave1"; try dsimp only) | fail "no step")
  (rename Fr _ _ _ _ => F1); (rename News _ _ _ _ => N1)
  refine LCg.CompSrc.ledger (by rfl) F1 N1 hl (by rw [List.size_toArray]; size_fits) ?_
  clear F1
  intro g1
  rw [List.size_toArray, hll]
  refine comp_inv (n := ln.length) (fun i ys nx => news = nx ∧ StrsAre ys ((ln.take i).map fun x => S [codeOf x])) ?_ ?_ ln.length 0 [] news (by omega) ⟨rfl, .nil⟩
  · rintro i v I oI C oC D m₂ h tk E' ys nx hi ⟨rfl, iy⟩ hv hC hx F2 N2 off ne
    obtain ⟨k, t, hk, rfl⟩ := intsAre_get il (by simpa using hv)
    have hkb := hb k (List.mem_of_getElem? hk)
    repeat' ((fail_if_success (with_reducible show LCg.CompSrc _ _ _ _ _ _ _ _ _ _ _ _ _ _)); (fail_if_success (with_reducible show LCg.CompEnd _ _ _ _ _ _ _ _ _ _ _ _ _ _)); (fail_if_success (with_reducible show InvPostR _ _ _ _ _ _ _ _)); (fail_if_success (with_reducible show Mid0 _ _ _ _ _ _)); (fail_if_success (with_reducible show WhileStep2 _ _ _ _ _ _ _ _)); (fail_if_success (with_reducible show InvPostN _ _ _ _ _ _ _ _ _)); (fail_if_success (with_reducible show wpAny _ _ (exec (Stmt.While _ _ _ _) _) _ _ _)); (fail_if_success (with_reducible show wpAny _ _ (exec (Stmt.For _ _ _ _ _) _) _ _ _)); first | (k_unfold; (try dsimp only)) | ((with_reducible refine hqk _ _ ?_); (try dsimp only)) | (walk1 <;> (try dsimp only)) | (dsimp only; walk1) | (leave1; walk_say "STEP leave1"; try dsimp only) | fail "no step")
    (rename Fr _ _ _ _ => F1); (rename News _ _ _ _ => N1)
    rw [item_letters hkb]
    exact LCg.CompEnd.intro F1 N1 _ (fun p hp => hp) off (Or.inr ⟨_, hl, rfl, _, rfl⟩) ⟨rfl, sa_cast (sa_snoc iy) (by rw [List.take_add_one, hk]; simp)⟩
  rintro ys nx ⟨hnx, iy⟩
  unfold LCg.FinE
  intro D h tk F2 N2 oD
  rw [← hnx] at N2 oD
  rw [List.take_length] at iy
  clear hnx nx N1
  dsimp only
  repeat' ((fail_if_success (with_reducible show LCg.CompSrc _ _ _ _ _ _ _ _ _ _ _ _ _ _)); (fail_if_success (with_reducible show LCg.CompEnd _ _ _ _ _ _ _ _ _ _ _ _ _ _)); (fail_if_success (with_reducible show InvPostR _ _ _ _ _ _ _ _)); (fail_if_success (with_reducible show Mid0 _ _ _ _ _ _)); (fail_if_success (with_reducible show WhileStep2 _ _ _ _ _ _ _ _)); (fail_if_success (with_reducible show InvPostN _ _ _ _ _ _ _ _ _)); (fail_if_success (with_reducible show wpAny _ _ (exec (Stmt.While _ _ _ _) _) _ _ _)); (fail_if_success (with_reducible show wpAny _ _ (exec (Stmt.For _ _ _ _ _) _) _ _ _)); first | (k_unfold; (try dsimp only)) | ((with_reducible refine hqk _ _ ?_); (try dsimp only)) | (walk1 <;> (try dsimp only)) | (dsimp only; walk1) | (leave1; walk_say "STEP leave1"; try dsimp only) | fail "no step")
  have hlst : h.IsList D ys.toArray := News.isList N2 (List.Mem.head _)
  have hz : (Str.ofString "").length = 0 := by decide
  refine' join_list (ys := ln.map fun x => S [codeOf x]) ?hl1 ?hi1 ?ho1 ?_
  case hl1 => exact hlst
  case hi1 => exact iy
  case ho1 => rw [len_ones, List.length_map, hz]; omega
  intro t' k'
  rw [Txt_join]
  dsimp only
  repeat' ((fail_if_success (with_reducible show LCg.CompSrc _ _ _ _ _ _ _ _ _ _ _ _ _ _)); (fail_if_success (with_reducible show LCg.CompEnd _ _ _ _ _ _ _ _ _ _ _ _ _ _)); (fail_if_success (with_reducible show InvPostR _ _ _ _ _ _ _ _)); (fail_if_success (with_reducible show Mid0 _ _ _ _ _ _)); (fail_if_success (with_reducible show WhileStep2 _ _ _ _ _ _ _ _)); (fail_if_success (with_reducible show InvPostN _ _ _ _ _ _ _ _ _)); (fail_if_success (with_reducible show wpAny _ _ (exec (Stmt.While _ _ _ _) _) _ _ _)); (fail_if_success (with_reducible show wpAny _ _ (exec (Stmt.For _ _ _ _ _) _) _ _ _)); first | (k_unfold; (try dsimp only)) | ((with_reducible refine hqk _ _ ?_); (try dsimp only)) | (walk1 <;> (try dsimp only)) | (dsimp only; walk1) | (leave1; walk_say "STEP leave1"; try dsimp only) | fail "no step")
  exact hret _ _ _ (by k_asm) (News.tail' (by k_asm))
end Mine
end

section
theorem Mine.offS5 : True := by
  w_top off
  trivial
open PySem PySem.W PyProof.Rows
set_option Elab.async false
set_option maxRecDepth 100000
set_option maxHeartbeats 8000000
namespace Mine
noncomputable def bl (a b c x : Int) : Int := if b < x then (if c < x then 3 else 2) else (if a < x then 1 else 0)
noncomputable def br (a b c x : Int) : Int := if x < b then (if x < a then 0 else 1) else (if x < c then 2 else 3)
theorem bl1 {a b c x : Int} (h1 : b < x) (h2 : c < x) : 3 = bl a b c x := by unfold bl; rw [if_pos h1, if_pos h2]
theorem bl2 {a b c x : Int} (h1 : b < x) (h2 : ¬ c < x) : 2 = bl a b c x := by unfold bl; rw [if_pos h1, if_neg h2]
theorem bl3 {a b c x : Int} (h1 : ¬ b < x) (h2 : a < x) : 1 = bl a b c x := by unfold bl; rw [if_neg h1, if_pos h2]
theorem bl4 {a b c x : Int} (h1 : ¬ b < x) (h2 : ¬ a < x) : 0 = bl a b c x := by unfold bl; rw [if_neg h1, if_neg h2]
theorem br1 {a b c x : Int} (h1 : x < b) (h2 : x < a) : 0 = br a b c x := by unfold br; rw [if_pos h1, if_pos h2]
theorem br2 {a b c x : Int} (h1 : x < b) (h2 : ¬ x < a) : 1 = br a b c x := by unfold br; rw [if_pos h1, if_neg h2]
theorem br3 {a b c x : Int} (h1 : ¬ x < b) (h2 : x < c) : 2 = br a b c x := by unfold br; rw [if_neg h1, if_pos h2]
theorem br4 {a b c x : Int} (h1 : ¬ x < b) (h2 : ¬ x < c) : 3 = br a b c x := by unfold br; rw [if_neg h1, if_neg h2]
noncomputable def bl_spcz_in : { PRED : World → (ExcName → Option Value) → (Str → Option Value) → (Str → Option Value) → (List (Addr × Obj)) → Addr → Int → Int → Int → Int → Tok → Tok → Tok → Tok → Nat → Nat → Nat → (Option (List Code)) → Str → Scope → Addr → Value → (List (Str × Addr)) → (List Env) → Around → Heap → Heap → Addr → (Str → Option Value) → Shared → (Value → Shared → Prop) → (Value → Shared → Prop) → Heap → Addr → Heap → (Flow → Shared → Prop) → (Value → Shared → Prop) → Prop // (∀ (w : World) (mean : ExcName → Option Value) (mg : Str → Option Value) (mb : Str → Option Value) (news : List (Addr × Obj)) (l : Addr) (a : Int) (b : Int) (c : Int) (x : Int) (ta : Tok) (tb : Tok) (tc : Tok) (tx : Tok) (n : Nat) (dpt : Nat) (unt : Nat) (gd : Option (List Code)) (cn : Str) (cs : Scope) (xa : Addr) (ccd : Value) (cl : List (Str × Addr)) (outerE : List Env) (A₀ : Around) (base : Heap) (h₀ : Heap) (L : Addr) (m : Str → Option Value) (s : Shared) (Q : Value → Shared → Prop) (E : Value → Shared → Prop) (g' : Heap) (L' : Addr) (h' : Heap) (qk : Flow → Shared → Prop) (ek : Value → Shared → Prop), PRED w mean mg mb news l a b c x ta tb tc tx n dpt unt gd cn cs xa ccd cl outerE A₀ base h₀ L m s Q E g' L' h' qk ek) → (∀ (w : World) (mean : ExcName → Option Value) (mg : Str → Option Value) (mb : Str → Option Value) (news : List (Addr × Obj)) (l : Addr) (a : Int) (b : Int) (c : Int) (x : Int) (ta : Tok) (tb : Tok) (tc : Tok) (tx : Tok) (n : Nat) (hl : (l, listOf [Value.int a ta, Value.int b tb, Value.int c tc].toArray n) ∈ news),
    Spc w mean mg mb 32 2 news [.ref l, .int x tx] (RetV news fun t => .int (bl a b c x) t)) } :=
  ⟨_, fun HYP => by
  intro w mean mg mb news l a b c x ta tb tc tx n hl
  dsimp only [Spc, RetV]
  k_fill
  intro dpt unt gd cn cs xa ccd cl outerE A₀ base h₀ L m s Q E hBel hFr hIn hNw hTop hcs hdp hun hret
  have iA : IntsAre [Value.int a ta, Value.int b tb, Value.int c tc] [a, b, c] := .cons _ _ (.cons _ _ (.cons _ _ .nil))
  have hll : [Value.int a ta, Value.int b tb, Value.int c tc].length = 3 := rfl
  refine wpAny_call ?_
  k_dflt (refine' code_def ?k1 ?k2 ?k3 ?k4 ?k5 ?kA ?kF ?kK ?k6 ?k7 ?k8 ?k9 ?kB ?_ ?c2 ?c3 ?c4 ?c5; (case kA => exact rfl); (case kF => exact rfl); (case kK => assumption); (case k1 => k_asm); (case k2 => k_asm); (case k3 => k_asm); (case k4 => k_asm); (case k5 => k_asm); (case k6 => k_is); (case k7 => k_is); (case k8 => first | exact Nat.le_of_ble_eq_true rfl | ktr_room); (case k9 => (refine' kp_binds ?kx ?ke; (case kx => k_in); (case ke => exact fun _ => rfl))); (case c5 => decide); (case kB => exact locs rfl); (case c2 => exact rfl); (case c3 => exact rfl); (case c4 => exact rfl); k_whole; intro g' L' h' FG' F' N' B' X' T'; (try dsimp only); (try k_lift B'))
  refine cut_qe (by passes_own) ?_
  intro qk ek hqk hek
  (try dsimp only at hqk)
  clear hcs hFr hNw
  revert hek; revert hqk; revert T'; revert X'; revert B'; revert N'; revert F'; revert FG'; revert hll; revert iA; revert hret; revert hun; revert hdp; revert hTop; revert hIn; revert hBel; revert hl
  revert ek; revert qk; revert h'; revert L'; revert g'; revert E; revert Q; revert s; revert m; revert L; revert h₀; revert base; revert A₀; revert outerE; revert cl; revert ccd; revert xa; revert cs; revert cn; revert gd; revert unt; revert dpt; revert n; revert tx; revert tc; revert tb; revert ta; revert x; revert c; revert b; revert a; revert l; revert news; revert mb; revert mg; revert mean; revert w
  exact HYP⟩
noncomputable def bl_spcz_B : World × (ExcName → Option Value) × (Str → Option Value) × (Str → Option Value) × (List (Addr × Obj)) × Addr × Int × Int × Int × Int × Tok × Tok × Tok × Tok × Nat × Nat × Nat × (Option (List Code)) × Str × Scope × Addr × Value × (List (Str × Addr)) × (List Env) × Around × Heap × Heap × Addr × (Str → Option Value) × Shared × (Value → Shared → Prop) × (Value → Shared → Prop) × Heap × Addr × Heap × (Flow → Shared → Prop) × (Value → Shared → Prop) → Prop := fun v => bl_spcz_in.1 v.1 v.2.1 v.2.2.1 v.2.2.2.1 v.2.2.2.2.1 v.2.2.2.2.2.1 v.2.2.2.2.2.2.1 v.2.2.2.2.2.2.2.1 v.2.2.2.2.2.2.2.2.1 v.2.2.2.2.2.2.2.2.2.1 v.2.2.2.2.2.2.2.2.2.2.1 v.2.2.2.2.2.2.2.2.2.2.2.1 v.2.2.2.2.2.2.2.2.2.2.2.2.1 v.2.2.2.2.2.2.2.2.2.2.2.2.2.1 v.2.2.2.2.2.2.2.2.2.2.2.2.2.2.1 v.2.2.2.2.2.2.2.2.2.2.2.2.2.2.2.1 v.2.2.2.2.2.2.2.2.2.2.2.2.2.2.2.2.1 v.2.2.2.2.2.2.2.2.2.2.2.2.2.2.2.2.2.1 v.2.2.2.2.2.2.2.2.2.2.2.2.2.2.2.2.2.2.1 v.2.2.2.2.2.2.2.2.2.2.2.2.2.2.2.2.2.2.2.1 v.2.2.2.2.2.2.2.2.2.2.2.2.2.2.2.2.2.2.2.2.1 v.2.2.2.2.2.2.2.2.2.2.2.2.2.2.2.2.2.2.2.2.2.1 v.2.2.2.2.2.2.2.2.2.2.2.2.2.2.2.2.2.2.2.2.2.2.1 v.2.2.2.2.2.2.2.2.2.2.2.2.2.2.2.2.2.2.2.2.2.2.2.1 v.2.2.2.2.2.2.2.2.2.2.2.2.2.2.2.2.2.2.2.2.2.2.2.2.1 v.2.2.2.2.2.2.2.2.2.2.2.2.2.2.2.2.2.2.2.2.2.2.2.2.2.1 v.2.2.2.2.2.2.2.2.2.2.2.2.2.2.2.2.2.2.2.2.2.2.2.2.2.2.1 v.2.2.2.2.2.2.2.2.2.2.2.2.2.2.2.2.2.2.2.2.2.2.2.2.2.2.2.1 v.2.2.2.2.2.2.2.2.2.2.2.2.2.2.2.2.2.2.2.2.2.2.2.2.2.2.2.2.1 v.2.2.2.2.2.2.2.2.2.2.2.2.2.2.2.2.2.2.2.2.2.2.2.2.2.2.2.2.2.1 v.2.2.2.2.2.2.2.2.2.2.2.2.2.2.2.2.2.2.2.2.2.2.2.2.2.2.2.2.2.2.1 v.2.2.2.2.2.2.2.2.2.2.2.2.2.2.2.2.2.2.2.2.2.2.2.2.2.2.2.2.2.2.2.1 v.2.2.2.2.2.2.2.2.2.2.2.2.2.2.2.2.2.2.2.2.2.2.2.2.2.2.2.2.2.2.2.2.1 v.2.2.2.2.2.2.2.2.2.2.2.2.2.2.2.2.2.2.2.2.2.2.2.2.2.2.2.2.2.2.2.2.2.1 v.2.2.2.2.2.2.2.2.2.2.2.2.2.2.2.2.2.2.2.2.2.2.2.2.2.2.2.2.2.2.2.2.2.2.1 v.2.2.2.2.2.2.2.2.2.2.2.2.2.2.2.2.2.2.2.2.2.2.2.2.2.2.2.2.2.2.2.2.2.2.2.1 v.2.2.2.2.2.2.2.2.2.2.2.2.2.2.2.2.2.2.2.2.2.2.2.2.2.2.2.2.2.2.2.2.2.2.2.2
noncomputable def bl_spcz_v : World × (ExcName → Option Value) × (Str → Option Value) × (Str → Option Value) × (List (Addr × Obj)) × Addr × Int × Int × Int × Int × Tok × Tok × Tok × Tok × Nat × Nat × Nat × (Option (List Code)) × Str × Scope × Addr × Value × (List (Str × Addr)) × (List Env) × Around × Heap × Heap × Addr × (Str → Option Value) × Shared × (Value → Shared → Prop) × (Value → Shared → Prop) × Heap × Addr × Heap × (Flow → Shared → Prop) × (Value → Shared → Prop) := Classical.choose (drink ⟨(Classical.choice neWorld, default, default, default, default, default, default, default, default, default, default, default, default, default, default, default, default, default, default, default, default, default, default, default, {}, default, default, default, default, {}, default, default, default, default, default, default, default)⟩ bl_spcz_B)
theorem bl_spcz_s : bl_spcz_B bl_spcz_v → ∀ v, bl_spcz_B v := by
  with_unfolding_all exact Classical.choose_spec (drink ⟨(Classical.choice neWorld, default, default, default, default, default, default, default, default, default, default, default, default, default, default, default, default, default, default, default, default, default, default, default, {}, default, default, default, default, {}, default, default, default, default, default, default, default)⟩ bl_spcz_B)
namespace bl_spczK
noncomputable def w : World := bl_spcz_v.1
noncomputable def mean : ExcName → Option Value := bl_spcz_v.2.1
noncomputable def mg : Str → Option Value := bl_spcz_v.2.2.1
noncomputable def mb : Str → Option Value := bl_spcz_v.2.2.2.1
noncomputable def news : List (Addr × Obj) := bl_spcz_v.2.2.2.2.1
noncomputable def l : Addr := bl_spcz_v.2.2.2.2.2.1
noncomputable def a : Int := bl_spcz_v.2.2.2.2.2.2.1
noncomputable def b : Int := bl_spcz_v.2.2.2.2.2.2.2.1
noncomputable def c : Int := bl_spcz_v.2.2.2.2.2.2.2.2.1
noncomputable def x : Int := bl_spcz_v.2.2.2.2.2.2.2.2.2.1
noncomputable def ta : Tok := bl_spcz_v.2.2.2.2.2.2.2.2.2.2.1
noncomputable def tb : Tok := bl_spcz_v.2.2.2.2.2.2.2.2.2.2.2.1
noncomputable def tc : Tok := bl_spcz_v.2.2.2.2.2.2.2.2.2.2.2.2.1
noncomputable def tx : Tok := bl_spcz_v.2.2.2.2.2.2.2.2.2.2.2.2.2.1
noncomputable def n : Nat := bl_spcz_v.2.2.2.2.2.2.2.2.2.2.2.2.2.2.1
noncomputable def dpt : Nat := bl_spcz_v.2.2.2.2.2.2.2.2.2.2.2.2.2.2.2.1
noncomputable def unt : Nat := bl_spcz_v.2.2.2.2.2.2.2.2.2.2.2.2.2.2.2.2.1
noncomputable def gd : Option (List Code) := bl_spcz_v.2.2.2.2.2.2.2.2.2.2.2.2.2.2.2.2.2.1
noncomputable def cn : Str := bl_spcz_v.2.2.2.2.2.2.2.2.2.2.2.2.2.2.2.2.2.2.1
noncomputable def cs : Scope := bl_spcz_v.2.2.2.2.2.2.2.2.2.2.2.2.2.2.2.2.2.2.2.1
noncomputable def xa : Addr := bl_spcz_v.2.2.2.2.2.2.2.2.2.2.2.2.2.2.2.2.2.2.2.2.1
noncomputable def ccd : Value := bl_spcz_v.2.2.2.2.2.2.2.2.2.2.2.2.2.2.2.2.2.2.2.2.2.1
noncomputable def cl : List (Str × Addr) := bl_spcz_v.2.2.2.2.2.2.2.2.2.2.2.2.2.2.2.2.2.2.2.2.2.2.1
noncomputable def outerE : List Env := bl_spcz_v.2.2.2.2.2.2.2.2.2.2.2.2.2.2.2.2.2.2.2.2.2.2.2.1
noncomputable def A₀ : Around := bl_spcz_v.2.2.2.2.2.2.2.2.2.2.2.2.2.2.2.2.2.2.2.2.2.2.2.2.1
noncomputable def base : Heap := bl_spcz_v.2.2.2.2.2.2.2.2.2.2.2.2.2.2.2.2.2.2.2.2.2.2.2.2.2.1
noncomputable def h₀ : Heap := bl_spcz_v.2.2.2.2.2.2.2.2.2.2.2.2.2.2.2.2.2.2.2.2.2.2.2.2.2.2.1
noncomputable def L : Addr := bl_spcz_v.2.2.2.2.2.2.2.2.2.2.2.2.2.2.2.2.2.2.2.2.2.2.2.2.2.2.2.1
noncomputable def m : Str → Option Value := bl_spcz_v.2.2.2.2.2.2.2.2.2.2.2.2.2.2.2.2.2.2.2.2.2.2.2.2.2.2.2.2.1
noncomputable def s : Shared := bl_spcz_v.2.2.2.2.2.2.2.2.2.2.2.2.2.2.2.2.2.2.2.2.2.2.2.2.2.2.2.2.2.1
noncomputable def Q : Value → Shared → Prop := bl_spcz_v.2.2.2.2.2.2.2.2.2.2.2.2.2.2.2.2.2.2.2.2.2.2.2.2.2.2.2.2.2.2.1
noncomputable def E : Value → Shared → Prop := bl_spcz_v.2.2.2.2.2.2.2.2.2.2.2.2.2.2.2.2.2.2.2.2.2.2.2.2.2.2.2.2.2.2.2.1
noncomputable def g' : Heap := bl_spcz_v.2.2.2.2.2.2.2.2.2.2.2.2.2.2.2.2.2.2.2.2.2.2.2.2.2.2.2.2.2.2.2.2.1
noncomputable def L' : Addr := bl_spcz_v.2.2.2.2.2.2.2.2.2.2.2.2.2.2.2.2.2.2.2.2.2.2.2.2.2.2.2.2.2.2.2.2.2.1
noncomputable def h' : Heap := bl_spcz_v.2.2.2.2.2.2.2.2.2.2.2.2.2.2.2.2.2.2.2.2.2.2.2.2.2.2.2.2.2.2.2.2.2.2.1
noncomputable def qk : Flow → Shared → Prop := bl_spcz_v.2.2.2.2.2.2.2.2.2.2.2.2.2.2.2.2.2.2.2.2.2.2.2.2.2.2.2.2.2.2.2.2.2.2.2.1
noncomputable def ek : Value → Shared → Prop := bl_spcz_v.2.2.2.2.2.2.2.2.2.2.2.2.2.2.2.2.2.2.2.2.2.2.2.2.2.2.2.2.2.2.2.2.2.2.2.2
end bl_spczK
open Mine.bl_spczK in
theorem bl_spcz_c : bl_spcz_in.1 w mean mg mb news l a b c x ta tb tc tx n dpt unt gd cn cs xa ccd cl outerE A₀ base h₀ L m s Q E g' L' h' qk ek := by
  unfold bl_spcz_in
  dsimp only
  k_fill
  intro hl hBel hIn hTop hdp hun hret iA hll FG' F' N' B' X' T' hqk hek
  repeat' ((fail_if_success (with_reducible show LCg.CompSrc _ _ _ _ _ _ _ _ _ _ _ _ _ _)); (fail_if_success (with_reducible show LCg.CompEnd _ _ _ _ _ _ _ _ _ _ _ _ _ _)); (fail_if_success (with_reducible show InvPostR _ _ _ _ _ _ _ _)); (fail_if_success (with_reducible show Mid0 _ _ _ _ _ _)); (fail_if_success (with_reducible show WhileStep2 _ _ _ _ _ _ _ _)); (fail_if_success (with_reducible show InvPostN _ _ _ _ _ _ _ _ _)); (fail_if_success (with_reducible show wpAny _ _ (exec (Stmt.While _ _ _ _) _) _ _ _)); (fail_if_success (with_reducible show wpAny _ _ (exec (Stmt.For _ _ _ _ _) _) _ _ _)); first | (k_unfold; (try dsimp only)) | ((with_reducible refine hqk _ _ ?_); (try dsimp only)) | (walk1 <;> (try dsimp only)) | (dsimp only; walk1) | (leave1; walk_say "STEP leave1"; try dsimp only) | fail "no step")
  (rename Fr _ _ _ _ => F1); (rename News _ _ _ _ => N1)
  k_dflt (refine whl_start 5 ?_)
  repeat' ((fail_if_success (with_reducible show LCg.CompSrc _ _ _ _ _ _ _ _ _ _ _ _ _ _)); (fail_if_success (with_reducible show LCg.CompEnd _ _ _ _ _ _ _ _ _ _ _ _ _ _)); (fail_if_success (with_reducible show InvPostR _ _ _ _ _ _ _ _)); (fail_if_success (with_reducible show Mid0 _ _ _ _ _ _)); (fail_if_success (with_reducible show WhileStep2 _ _ _ _ _ _ _ _)); (fail_if_success (with_reducible show InvPostN _ _ _ _ _ _ _ _ _)); (fail_if_success (with_reducible show wpAny _ _ (exec (Stmt.While _ _ _ _) _) _ _ _)); (fail_if_success (with_reducible show wpAny _ _ (exec (Stmt.For _ _ _ _ _) _) _ _ _)); first | (k_unfold; (try dsimp only)) | ((with_reducible refine hqk _ _ ?_); (try dsimp only)) | (walk1 <;> (try dsimp only)) | (dsimp only; walk1) | (leave1; walk_say "STEP leave1"; try dsimp only) | fail "no step")
  all_goals first
    | exact retI hret (bl1 (by assumption) (by assumption)) (by k_asm) (by k_asm)
    | exact retI hret (bl2 (by assumption) (by assumption)) (by k_asm) (by k_asm)
    | exact retI hret (bl3 (by assumption) (by assumption)) (by k_asm) (by k_asm)
    | exact retI hret (bl4 (by assumption) (by assumption)) (by k_asm) (by k_asm)
theorem bl_spc (w : World) (mean : ExcName → Option Value) (mg mb : Str → Option Value) (news : List (Addr × Obj)) (l : Addr) (a b c x : Int) (ta tb tc tx : Tok) (n : Nat) (hl : (l, listOf [Value.int a ta, Value.int b tb, Value.int c tc].toArray n) ∈ news) :
    Spc w mean mg mb 32 2 news [.ref l, .int x tx] (RetV news fun t => .int (bl a b c x) t) :=
  (bl_spcz_in.2 (fun w mean mg mb news l a b c x ta tb tc tx n dpt unt gd cn cs xa ccd cl outerE A₀ base h₀ L m s Q E g' L' h' qk ek => bl_spcz_s bl_spcz_c (w, mean, mg, mb, news, l, a, b, c, x, ta, tb, tc, tx, n, dpt, unt, gd, cn, cs, xa, ccd, cl, outerE, A₀, base, h₀, L, m, s, Q, E, g', L', h', qk, ek))) w mean mg mb news l a b c x ta tb tc tx n hl
noncomputable def br_spcz_in : { PRED : World → (ExcName → Option Value) → (Str → Option Value) → (Str → Option Value) → (List (Addr × Obj)) → Addr → Int → Int → Int → Int → Tok → Tok → Tok → Tok → Nat → Nat → Nat → (Option (List Code)) → Str → Scope → Addr → Value → (List (Str × Addr)) → (List Env) → Around → Heap → Heap → Addr → (Str → Option Value) → Shared → (Value → Shared → Prop) → (Value → Shared → Prop) → Heap → Addr → Heap → (Flow → Shared → Prop) → (Value → Shared → Prop) → Prop // (∀ (w : World) (mean : ExcName → Option Value) (mg : Str → Option Value) (mb : Str → Option Value) (news : List (Addr × Obj)) (l : Addr) (a : Int) (b : Int) (c : Int) (x : Int) (ta : Tok) (tb : Tok) (tc : Tok) (tx : Tok) (n : Nat) (dpt : Nat) (unt : Nat) (gd : Option (List Code)) (cn : Str) (cs : Scope) (xa : Addr) (ccd : Value) (cl : List (Str × Addr)) (outerE : List Env) (A₀ : Around) (base : Heap) (h₀ : Heap) (L : Addr) (m : Str → Option Value) (s : Shared) (Q : Value → Shared → Prop) (E : Value → Shared → Prop) (g' : Heap) (L' : Addr) (h' : Heap) (qk : Flow → Shared → Prop) (ek : Value → Shared → Prop), PRED w mean mg mb news l a b c x ta tb tc tx n dpt unt gd cn cs xa ccd cl outerE A₀ base h₀ L m s Q E g' L' h' qk ek) → (∀ (w : World) (mean : ExcName → Option Value) (mg : Str → Option Value) (mb : Str → Option Value) (news : List (Addr × Obj)) (l : Addr) (a : Int) (b : Int) (c : Int) (x : Int) (ta : Tok) (tb : Tok) (tc : Tok) (tx : Tok) (n : Nat) (hl : (l, listOf [Value.int a ta, Value.int b tb, Value.int c tc].toArray n) ∈ news),
    Spc w mean mg mb 23 2 news [.ref l, .int x tx] (RetV news fun t => .int (br a b c x) t)) } :=
  ⟨_, fun HYP => by
  intro w mean mg mb news l a b c x ta tb tc tx n hl
  dsimp only [Spc, RetV]
  k_fill
  intro dpt unt gd cn cs xa ccd cl outerE A₀ base h₀ L m s Q E hBel hFr hIn hNw hTop hcs hdp hun hret
  have iA : IntsAre [Value.int a ta, Value.int b tb, Value.int c tc] [a, b, c] := .cons _ _ (.cons _ _ (.cons _ _ .nil))
  have hll : [Value.int a ta, Value.int b tb, Value.int c tc].length = 3 := rfl
  refine wpAny_call ?_
  k_dflt (refine' code_def ?k1 ?k2 ?k3 ?k4 ?k5 ?kA ?kF ?kK ?k6 ?k7 ?k8 ?k9 ?kB ?_ ?c2 ?c3 ?c4 ?c5; (case kA => exact rfl); (case kF => exact rfl); (case kK => assumption); (case k1 => k_asm); (case k2 => k_asm); (case k3 => k_asm); (case k4 => k_asm); (case k5 => k_asm); (case k6 => k_is); (case k7 => k_is); (case k8 => first | exact Nat.le_of_ble_eq_true rfl | ktr_room); (case k9 => (refine' kp_binds ?kx ?ke; (case kx => k_in); (case ke => exact fun _ => rfl))); (case c5 => decide); (case kB => exact locs rfl); (case c2 => exact rfl); (case c3 => exact rfl); (case c4 => exact rfl); k_whole; intro g' L' h' FG' F' N' B' X' T'; (try dsimp only); (try k_lift B'))
  refine cut_qe (by passes_own) ?_
  intro qk ek hqk hek
  (try dsimp only at hqk)
  clear hcs hFr hNw
  revert hek; revert hqk; revert T'; revert X'; revert B'; revert N'; revert F'; revert FG'; revert hll; revert iA; revert hret; revert hun; revert hdp; revert hTop; revert hIn; revert hBel; revert hl
  revert ek; revert qk; revert h'; revert L'; revert g'; revert E; revert Q; revert s; revert m; revert L; revert h₀; revert base; revert A₀; revert outerE; revert cl; revert ccd; revert xa; revert cs; revert cn; revert gd; revert unt; revert dpt; revert n; revert tx; revert tc; revert tb; revert ta; revert x; revert c; revert b; revert a; revert l; revert news; revert mb; revert mg; revert mean; revert w
  exact HYP⟩
noncomputable def br_spcz_B : World × (ExcName → Option Value) × (Str → Option Value) × (Str → Option Value) × (List (Addr × Obj)) × Addr × Int × Int × Int × Int × Tok × Tok × Tok × Tok × Nat × Nat × Nat × (Option (List Code)) × Str × Scope × Addr × Value × (List (Str × Addr)) × (List Env) × Around × Heap × Heap × Addr × (Str → Option Value) × Shared × (Value → Shared → Prop) × (Value → Shared → Prop) × Heap × Addr × Heap × (Flow → Shared → Prop) × (Value → Shared → Prop) → Prop := fun v => br_spcz_in.1 v.1 v.2.1 v.2.2.1 v.2.2.2.1 v.2.2.2.2.1 v.2.2.2.2.2.1 v.2.2.2.2.2.2.1 v.2.2.2.2.2.2.2.1 v.2.2.2.2.2.2.2.2.1 v.2.2.2.2.2.2.2.2.2.1 v.2.2.2.2.2.2.2.2.2.2.1 v.2.2.2.2.2.2.2.2.2.2.2.1 v.2.2.2.2.2.2.2.2.2.2.2.2.1 v.2.2.2.2.2.2.2.2.2.2.2.2.2.1 v.2.2.2.2.2.2.2.2.2.2.2.2.2.2.1 v.2.2.2.2.2.2.2.2.2.2.2.2.2.2.2.1 v.2.2.2.2.2.2.2.2.2.2.2.2.2.2.2.2.1 v.2.2.2.2.2.2.2.2.2.2.2.2.2.2.2.2.2.1 v.2.2.2.2.2.2.2.2.2.2.2.2.2.2.2.2.2.2.1 v.2.2.2.2.2.2.2.2.2.2.2.2.2.2.2.2.2.2.2.1 v.2.2.2.2.2.2.2.2.2.2.2.2.2.2.2.2.2.2.2.2.1 v.2.2.2.2.2.2.2.2.2.2.2.2.2.2.2.2.2.2.2.2.2.1 v.2.2.2.2.2.2.2.2.2.2.2.2.2.2.2.2.2.2.2.2.2.2.1 v.2.2.2.2.2.2.2.2.2.2.2.2.2.2.2.2.2.2.2.2.2.2.2.1 v.2.2.2.2.2.2.2.2.2.2.2.2.2.2.2.2.2.2.2.2.2.2.2.2.1 v.2.2.2.2.2.2.2.2.2.2.2.2.2.2.2.2.2.2.2.2.2.2.2.2.2.1 v.2.2.2.2.2.2.2.2.2.2.2.2.2.2.2.2.2.2.2.2.2.2.2.2.2.2.1 v.2.2.2.2.2.2.2.2.2.2.2.2.2.2.2.2.2.2.2.2.2.2.2.2.2.2.2.1 v.2.2.2.2.2.2.2.2.2.2.2.2.2.2.2.2.2.2.2.2.2.2.2.2.2.2.2.2.1 v.2.2.2.2.2.2.2.2.2.2.2.2.2.2.2.2.2.2.2.2.2.2.2.2.2.2.2.2.2.1 v.2.2.2.2.2.2.2.2.2.2.2.2.2.2.2.2.2.2.2.2.2.2.2.2.2.2.2.2.2.2.1 v.2.2.2.2.2.2.2.2.2.2.2.2.2.2.2.2.2.2.2.2.2.2.2.2.2.2.2.2.2.2.2.1 v.2.2.2.2.2.2.2.2.2.2.2.2.2.2.2.2.2.2.2.2.2.2.2.2.2.2.2.2.2.2.2.2.1 v.2.2.2.2.2.2.2.2.2.2.2.2.2.2.2.2.2.2.2.2.2.2.2.2.2.2.2.2.2.2.2.2.2.1 v.2.2.2.2.2.2.2.2.2.2.2.2.2.2.2.2.2.2.2.2.2.2.2.2.2.2.2.2.2.2.2.2.2.2.1 v.2.2.2.2.2.2.2.2.2.2.2.2.2.2.2.2.2.2.2.2.2.2.2.2.2.2.2.2.2.2.2.2.2.2.2.1 v.2.2.2.2.2.2.2.2.2.2.2.2.2.2.2.2.2.2.2.2.2.2.2.2.2.2.2.2.2.2.2.2.2.2.2.2
noncomputable def br_spcz_v : World × (ExcName → Option Value) × (Str → Option Value) × (Str → Option Value) × (List (Addr × Obj)) × Addr × Int × Int × Int × Int × Tok × Tok × Tok × Tok × Nat × Nat × Nat × (Option (List Code)) × Str × Scope × Addr × Value × (List (Str × Addr)) × (List Env) × Around × Heap × Heap × Addr × (Str → Option Value) × Shared × (Value → Shared → Prop) × (Value → Shared → Prop) × Heap × Addr × Heap × (Flow → Shared → Prop) × (Value → Shared → Prop) := Classical.choose (drink ⟨(Classical.choice neWorld, default, default, default, default, default, default, default, default, default, default, default, default, default, default, default, default, default, default, default, default, default, default, default, {}, default, default, default, default, {}, default, default, default, default, default, default, default)⟩ br_spcz_B)
theorem br_spcz_s : br_spcz_B br_spcz_v → ∀ v, br_spcz_B v := by
  with_unfolding_all exact Classical.choose_spec (drink ⟨(Classical.choice neWorld, default, default, default, default, default, default, default, default, default, default, default, default, default, default, default, default, default, default, default, default, default, default, default, {}, default, default, default, default, {}, default, default, default, default, default, default, default)⟩ br_spcz_B)
namespace br_spczK
noncomputable def w : World := br_spcz_v.1
noncomputable def mean : ExcName → Option Value := br_spcz_v.2.1
noncomputable def mg : Str → Option Value := br_spcz_v.2.2.1
noncomputable def mb : Str → Option Value := br_spcz_v.2.2.2.1
noncomputable def news : List (Addr × Obj) := br_spcz_v.2.2.2.2.1
noncomputable def l : Addr := br_spcz_v.2.2.2.2.2.1
noncomputable def a : Int := br_spcz_v.2.2.2.2.2.2.1
noncomputable def b : Int := br_spcz_v.2.2.2.2.2.2.2.1
noncomputable def c : Int := br_spcz_v.2.2.2.2.2.2.2.2.1
noncomputable def x : Int := br_spcz_v.2.2.2.2.2.2.2.2.2.1
noncomputable def ta : Tok := br_spcz_v.2.2.2.2.2.2.2.2.2.2.1
noncomputable def tb : Tok := br_spcz_v.2.2.2.2.2.2.2.2.2.2.2.1
noncomputable def tc : Tok := br_spcz_v.2.2.2.2.2.2.2.2.2.2.2.2.1
noncomputable def tx : Tok := br_spcz_v.2.2.2.2.2.2.2.2.2.2.2.2.2.1
noncomputable def n : Nat := br_spcz_v.2.2.2.2.2.2.2.2.2.2.2.2.2.2.1
noncomputable def dpt : Nat := br_spcz_v.2.2.2.2.2.2.2.2.2.2.2.2.2.2.2.1
noncomputable def unt : Nat := br_spcz_v.2.2.2.2.2.2.2.2.2.2.2.2.2.2.2.2.1
noncomputable def gd : Option (List Code) := br_spcz_v.2.2.2.2.2.2.2.2.2.2.2.2.2.2.2.2.2.1
noncomputable def cn : Str := br_spcz_v.2.2.2.2.2.2.2.2.2.2.2.2.2.2.2.2.2.2.1
noncomputable def cs : Scope := br_spcz_v.2.2.2.2.2.2.2.2.2.2.2.2.2.2.2.2.2.2.2.1
noncomputable def xa : Addr := br_spcz_v.2.2.2.2.2.2.2.2.2.2.2.2.2.2.2.2.2.2.2.2.1
noncomputable def ccd : Value := br_spcz_v.2.2.2.2.2.2.2.2.2.2.2.2.2.2.2.2.2.2.2.2.2.1
noncomputable def cl : List (Str × Addr) := br_spcz_v.2.2.2.2.2.2.2.2.2.2.2.2.2.2.2.2.2.2.2.2.2.2.1
noncomputable def outerE : List Env := br_spcz_v.2.2.2.2.2.2.2.2.2.2.2.2.2.2.2.2.2.2.2.2.2.2.2.1
noncomputable def A₀ : Around := br_spcz_v.2.2.2.2.2.2.2.2.2.2.2.2.2.2.2.2.2.2.2.2.2.2.2.2.1
noncomputable def base : Heap := br_spcz_v.2.2.2.2.2.2.2.2.2.2.2.2.2.2.2.2.2.2.2.2.2.2.2.2.2.1
noncomputable def h₀ : Heap := br_spcz_v.2.2.2.2.2.2.2.2.2.2.2.2.2.2.2.2.2.2.2.2.2.2.2.2.2.2.1
noncomputable def L : Addr := br_spcz_v.2.2.2.2.2.2.2.2.2.2.2.2.2.2.2.2.2.2.2.2.2.2.2.2.2.2.2.1
noncomputable def m : Str → Option Value := br_spcz_v.2.2.2.2.2.2.2.2.2.2.2.2.2.2.2.2.2.2.2.2.2.2.2.2.2.2.2.2.1
noncomputable def s : Shared := br_spcz_v.2.2.2.2.2.2.2.2.2.2.2.2.2.2.2.2.2.2.2.2.2.2.2.2.2.2.2.2.2.1
noncomputable def Q : Value → Shared → Prop := br_spcz_v.2.2.2.2.2.2.2.2.2.2.2.2.2.2.2.2.2.2.2.2.2.2.2.2.2.2.2.2.2.2.1
noncomputable def E : Value → Shared → Prop := br_spcz_v.2.2.2.2.2.2.2.2.2.2.2.2.2.2.2.2.2.2.2.2.2.2.2.2.2.2.2.2.2.2.2.1
noncomputable def g' : Heap := br_spcz_v.2.2.2.2.2.2.2.2.2.2.2.2.2.2.2.2.2.2.2.2.2.2.2.2.2.2.2.2.2.2.2.2.1
noncomputable def L' : Addr := br_spcz_v.2.2.2.2.2.2.2.2.2.2.2.2.2.2.2.2.2.2.2.2.2.2.2.2.2.2.2.2.2.2.2.2.2.1
noncomputable def h' : Heap := br_spcz_v.2.2.2.2.2.2.2.2.2.2.2.2.2.2.2.2.2.2.2.2.2.2.2.2.2.2.2.2.2.2.2.2.2.2.1
noncomputable def qk : Flow → Shared → Prop := br_spcz_v.2.2.2.2.2.2.2.2.2.2.2.2.2.2.2.2.2.2.2.2.2.2.2.2.2.2.2.2.2.2.2.2.2.2.2.1
noncomputable def ek : Value → Shared → Prop := br_spcz_v.2.2.2.2.2.2.2.2.2.2.2.2.2.2.2.2.2.2.2.2.2.2.2.2.2.2.2.2.2.2.2.2.2.2.2.2
end br_spczK
open Mine.br_spczK in
theorem br_spcz_c : br_spcz_in.1 w mean mg mb news l a b c x ta tb tc tx n dpt unt gd cn cs xa ccd cl outerE A₀ base h₀ L m s Q E g' L' h' qk ek := by
  unfold br_spcz_in
  dsimp only
  k_fill
  intro hl hBel hIn hTop hdp hun hret iA hll FG' F' N' B' X' T' hqk hek
  repeat' ((fail_if_success (with_reducible show LCg.CompSrc _ _ _ _ _ _ _ _ _ _ _ _ _ _)); (fail_if_success (with_reducible show LCg.CompEnd _ _ _ _ _ _ _ _ _ _ _ _ _ _)); (fail_if_success (with_reducible show InvPostR _ _ _ _ _ _ _ _)); (fail_if_success (with_reducible show Mid0 _ _ _ _ _ _)); (fail_if_success (with_reducible show WhileStep2 _ _ _ _ _ _ _ _)); (fail_if_success (with_reducible show InvPostN _ _ _ _ _ _ _ _ _)); (fail_if_success (with_reducible show wpAny _ _ (exec (Stmt.While _ _ _ _) _) _ _ _)); (fail_if_success (with_reducible show wpAny _ _ (exec (Stmt.For _ _ _ _ _) _) _ _ _)); first | (k_unfold; (try dsimp only)) | ((with_reducible refine hqk _ _ ?_); (try dsimp only)) | (walk1 <;> (try dsimp only)) | (dsimp only; walk1) | (leave1; walk_say "STEP leave1"; try dsimp only) | fail "no step")
  (rename Fr _ _ _ _ => F1); (rename News _ _ _ _ => N1)
  k_dflt (refine whl_start 5 ?_)
  repeat' ((fail_if_success (with_reducible show LCg.CompSrc _ _ _ _ _ _ _ _ _ _ _ _ _ _)); (fail_if_success (with_reducible show LCg.CompEnd _ _ _ _ _ _ _ _ _ _ _ _ _ _)); (fail_if_success (with_reducible show InvPostR _ _ _ _ _ _ _ _)); (fail_if_success (with_reducible show Mid0 _ _ _ _ _ _)); (fail_if_success (with_reducible show WhileStep2 _ _ _ _ _ _ _ _)); (fail_if_success (with_reducible show InvPostN _ _ _ _ _ _ _ _ _)); (fail_if_success (with_reducible show wpAny _ _ (exec (Stmt.While _ _ _ _) _) _ _ _)); (fail_if_success (with_reducible show wpAny _ _ (exec (Stmt.For _ _ _ _ _) _) _ _ _)); first | (k_unfold; (try dsimp only)) | ((with_reducible refine hqk _ _ ?_); (try dsimp only)) | (walk1 <;> (try dsimp only)) | (dsimp only; walk1) | (leave1; walk_say "STEP leave1"; try dsimp only) | fail "no step")
  all_goals first
    | exact retI hret (br1 (by assumption) (by assumption)) (by k_asm) (by k_asm)
    | exact retI hret (br2 (by assumption) (by assumption)) (by k_asm) (by k_asm)
    | exact retI hret (br3 (by assumption) (by assumption)) (by k_asm) (by k_asm)
    | exact retI hret (br4 (by assumption) (by assumption)) (by k_asm) (by k_asm)
theorem br_spc (w : World) (mean : ExcName → Option Value) (mg mb : Str → Option Value) (news : List (Addr × Obj)) (l : Addr) (a b c x : Int) (ta tb tc tx : Tok) (n : Nat) (hl : (l, listOf [Value.int a ta, Value.int b tb, Value.int c tc].toArray n) ∈ news) :
    Spc w mean mg mb 23 2 news [.ref l, .int x tx] (RetV news fun t => .int (br a b c x) t) :=
  (br_spcz_in.2 (fun w mean mg mb news l a b c x ta tb tc tx n dpt unt gd cn cs xa ccd cl outerE A₀ base h₀ L m s Q E g' L' h' qk ek => br_spcz_s br_spcz_c (w, mean, mg, mb, news, l, a, b, c, x, ta, tb, tc, tx, n, dpt, unt, gd, cn, cs, xa, ccd, cl, outerE, A₀, base, h₀, L, m, s, Q, E, g', L', h', qk, ek))) w mean mg mb news l a b c x ta tb tc tx n hl
end Mine
end

section
open PySem PySem.W PyProof.Rows
set_option Elab.async false
set_option maxRecDepth 100000
set_option maxHeartbeats 8000000
namespace Mine
noncomputable def lt2 (a k b j : Int) : Bool := if a = b then decide (k < j) else decide (a < b)
section
variable {prog : Program} {w : World} {A : Around} {E : Value → Shared → Prop} {s : Shared}
theorem tuple_lt_tree {x y : Addr} {a k p b j q : Int} {ta tk tp tb tj tq : Tok} {nx ny : Nat} {P : PySem.Fin → Shared → Prop} (hx : s.heap.get? x = some (tup3 a ta k tk p tp nx)) (hy : s.heap.get? y = some (tup3 b tb j tj q tq ny)) (hkj : k ≠ j)
    (h : P (.done (.ret (.bool (lt2 a k b j)))) s) : wpAny (model prog w) A (Builtin.«tuple.__lt__» ⟨[.ref x, .ref y], []⟩) P E s := by
  have hTb : s.TypeIs (.ref y) "tuple" := ⟨_, hy, rfl⟩
  show wpAny _ _ (isInstance (.ref y) (.type "tuple") >>= _) _ _ s
  refine wpAny_bind (wpAny_isInstance hTb isSubtype_tuple_tuple ?_)
  simp only [Bool.not_true, Bool.false_eq_true, if_false]
  refine wpAny_bind (wpAny_tupleItemsOf hx rfl ?_)
  refine wpAny_bind (wpAny_tupleItemsOf hy rfl ?_)
  refine wpAny_bind ?_
  simp only [List.zip_cons_cons, List.zip_nil_right, List.forIn_cons]
  refine wpAny_bind (wpAny_bind (wpAny_eqBool_int ?_))
  by_cases e : a = b
  · subst e
    simp only [beq_self_eq_true, decide_true, Bool.not_true, Bool.false_eq_true, if_false]
    refine wpAny_pure ?_
    refine wpAny_bind (wpAny_bind (wpAny_eqBool_int ?_))
    have hb : (k == j) = false := by simpa using hkj
    have hd : decide (k = j) = false := by simpa using hkj
    simp only [hb, hd, Bool.not_false, if_true]
    refine wpAny_bind (wpAny_rule ?_)
    refine wpAny_bind (show wpAny _ _ (compareOp .Lt _ _) _ _ _ from lt_int ?_)
    refine wpAny_bind (wpAny_pure ?_)
    refine wpAny_pure (wpAny_pure (wpAny_pure ?_))
    rw [lt2, if_pos rfl] at h
    exact h
  · have hb : (a == b) = false := by simpa using e
    have hd : decide (a = b) = false := by simpa using e
    simp only [hb, hd, Bool.not_false, if_true]
    refine wpAny_bind (wpAny_rule ?_)
    refine wpAny_bind (show wpAny _ _ (compareOp .Lt _ _) _ _ _ from lt_int ?_)
    refine wpAny_bind (wpAny_pure ?_)
    refine wpAny_pure (wpAny_pure (wpAny_pure ?_))
    rw [lt2, if_neg e] at h
    exact h
theorem tuple_lt {x y : Addr} {a k p b j q : Int} {ta tk tp tb tj tq : Tok} {nx ny : Nat} {Q : Value → Shared → Prop} (hu : A.units < cLine) (hx : s.heap.get? x = some (tup3 a ta k tk p tp nx)) (hy : s.heap.get? y = some (tup3 b tb j tj q tq ny)) (hkj : k ≠ j)
    (h : Q (.bool (lt2 a k b j)) s) : wpAny (model prog w) A (compareOp .Lt (.ref x) (.ref y)) Q E s := by
  have hT : ∀ {z : Addr} {a k p : Int} {ta tk tp : Tok} {n : Nat}, s.heap.get? z = some (tup3 a ta k tk p tp n) → s.TypeIs (.ref z) "tuple" := fun h => ⟨_, h, rfl⟩
  exact cmp_ofLt (wpAny_richCompare_same_room (op := .Lt) (hT hx) (hT hy) F.slot_tuple_lt
    (wpAny_call_entry F.slot_tuple_lt (hT hx) F.entry_tuple_lt (tuple_lt_tree hx hy hkj ⟨_, rfl, (fun e => nomatch e), h⟩) (F.args_tuple_lt_2 _ _)) hu)
theorem item_intsK {value slice : PySem.Expr} {l : Addr} {vs : List Value} {ns : List Int} {k : Int} {u : Tok} {n : Nat} {Q : Value → Shared → Prop} {h₀ : Heap} {L : Addr} {news : List (Addr × Obj)} (N : News h₀ L s.heap news) (hm : (l, listOf vs.toArray n) ∈ news)
    (hi : IntsAre vs ns) (h0 : 0 ≤ k) (h1 : k < (ns.length : Int)) (h2 : ns.length < 2 ^ 62) (h : ∀ t, Q (.int (ns.getD k.toNat 0) t) s)
    (hs : subscripted slice false (.ref l) (.int k u) = operate [.ref l, .int k u] (getItem (.ref l) (.int k u)) := by with_unfolding_all rfl) :
    wpAny (model prog w) A (subscriptTail value slice (.ref l) (.int k u)) Q E s := by
  have hlt : k.toNat < ns.length := by omega
  obtain ⟨t, hx⟩ := hi.get k.toNat (ns[k.toNat]) (by simp [hlt])
  refine item_litK (News.isList N hm) h0 (by omega) hx ?_ hs
  have := h t
  rw [show ns.getD k.toNat 0 = ns[k.toNat] from by simp [List.getD, hlt]] at this
  exact this
end
end Mine
end

section
open PySem PySem.W PyProof.Rows
set_option Elab.async false
set_option maxRecDepth 100000
set_option maxHeartbeats 8000000
namespace Mine
theorem sub_ri_reversed : isSubtype (.type "range_iterator") (.type "reversed") = pure false := by rw [isSubtype_type]; kernel_rfl
section
variable {prog : Program} {w : World} {A : Around} {E : Value → Shared → Prop} {s : Shared}
theorem call_range_reversed {r : Addr} {t u v : Tok} {Q : Value → Shared → Prop} (hr : IsRange s.heap r 0 1 1 t u v)
    (h : Q (.ref s.heap.objs.size) { s with heap := s.heap.push { cls := .type "range_iterator", data := .fields #[rawInt 0, rawInt 1, rawInt (-1)] } }) : wpAny (model prog w) A (call (.builtin "range.__reversed__") [.ref r]) Q E s := by
  have hT : s.TypeIs (.ref r) "range" := ⟨_, hr, rfl⟩
  refine wpAny_call_entry F.slot_range_reversed hT F.entry_range_reversed ?_ (F.args_range_reversed_1 _)
  unfold Builtin.«range.__reversed__»
  refine wpAny_bind (wpAny_of_eq (a := Value.ref r) rfl ?_)
  refine wpAny_bind ?_
  show wpAny _ _ (field (.ref r) 0 >>= _) _ _ s
  refine wpAny_bind (wpAny_field hr rfl (x := .int 0 t) rfl ?_)
  refine wpAny_bind (wpAny_of_eq (a := some (0 : Int)) rfl ?_)
  refine wpAny_bind (wpAny_field hr rfl (x := .int 1 u) rfl ?_)
  refine wpAny_bind (wpAny_of_eq (a := some (1 : Int)) rfl ?_)
  refine wpAny_bind (wpAny_field hr rfl (x := .int 1 v) rfl ?_)
  refine wpAny_bind (wpAny_of_eq (a := some (1 : Int)) rfl ?_)
  refine wpAny_pure ?_
  show wpAny _ _ (newFields "range_iterator" [rawInt (0 + (1 - 1) * 1), rawInt 1, rawInt (-1)] >>= _) _ _ s
  refine wpAny_bind (wpAny_newObj_type (wpAny_pure ⟨_, rfl, ?_⟩))
  exact h
theorem code_range_reversed_new {r : Addr} {t u v : Tok} {Q₁ : Value → Shared → Prop} (hr : IsRange s.heap r 0 1 1 t u v)
    (h : Q₁ (.ref s.heap.objs.size) { s with heap := s.heap.push { cls := .type "range_iterator", data := .fields #[rawInt 0, rawInt 1, rawInt (-1)] } }) :
    codeAny (model prog w) A (.call (.builtin "reversed.__new__") ⟨[.type "reversed", .ref r], []⟩) (wants Q₁ E) s := by
  have hT : s.TypeIs (.ref r) "range" := ⟨_, hr, rfl⟩
  refine codeAny_of_tree ?_
  show wpAny _ A.in1 (do checkBuiltinCall "reversed.__new__" ⟨[.type "reversed", .ref r], []⟩; again (.builtin "reversed.__new__" ⟨[.type "reversed", .ref r], []⟩)) _ _ s
  refine wpAny_bind (wpAny_of_eq (F.newCall_reversed_1 _) (wpAny_pure ⟨plainId_quiet F.plain_reversed_new _, codeAny_builtin F.entry_reversed_new ?_⟩))
  rw [Around.under_plainId F.plain_reversed_new _]
  unfold Builtin.«reversed.__new__»
  refine wpAny_bind (wpAny_of_eq (newClass_reversed _) ?_)
  try dsimp only
  refine wpAny_bind (wpAny_of_eq (a := ()) (by first | rfl | kernel_rfl) ?_)
  refine wpAny_bind (wpAny_of_eq (a := ()) (by first | rfl | kernel_rfl) ?_)
  try dsimp only
  refine wpAny_bind (wpAny_specialOf hT F.slot_range_reversed.lookup ?_)
  try dsimp only
  refine wpAny_bind (wpAny_of_eq (F.slot_range_reversed.bind _) ?_)
  try dsimp only
  first
  | rw [if_neg (show ¬ ((Value.builtin "range.__reversed__" == Value.none) = true) from Bool.false_ne_true)]
  | (show wpAny _ _ (if (Value.builtin "range.__reversed__" == Value.none) = true then _ else _) _ _ _; rw [if_neg (show ¬ ((Value.builtin "range.__reversed__" == Value.none) = true) from Bool.false_ne_true)])
  refine wpAny_bind (wpAny_rule ?_)
  refine wpAny_bind (m := runValue (.call (.builtin "range.__reversed__") ⟨[.ref r], []⟩)) (show wpAny _ _ (call (.builtin "range.__reversed__") [.ref r]) _ _ _ from call_range_reversed hr ?_)
  first
  | exact wpAny_pure h
  | exact wpAny_bind (wpAny_pure (wpAny_pure h))
theorem call_reversed_range {r : Addr} {t u v : Tok} {Q : Value → Shared → Prop} (hr : IsRange s.heap r 0 1 1 t u v)
    (h : Q (.ref s.heap.objs.size) { s with heap := s.heap.push { cls := .type "range_iterator", data := .fields #[rawInt 0, rawInt 1, rawInt (-1)] } }) : wpAny (model prog w) A (call (.type "reversed") [.ref r]) Q E s := by
  refine callType_other (U := "range_iterator") (Q₁ := fun obj s₁ => obj = .ref s.heap.objs.size ∧ s₁ = { s with heap := s.heap.push { cls := .type "range_iterator", data := .fields #[rawInt 0, rawInt 1, rawInt (-1)] } }) (by decide +kernel) F.create_reversed ⟨_, _, F.mro_reversed⟩ F.made_reversed sub_ri_reversed (F.typeCall_reversed_1 _) (code_range_reversed_new hr ⟨rfl, rfl⟩) ?_
  rintro obj s₁ ⟨rfl, rfl⟩
  exact ⟨⟨_, Heap.get?_push_size _ rfl, rfl⟩, h⟩
end
section
variable {prog : Program} {w : World} {A : Around} {E : Value → Shared → Prop} {s : Shared} {env : Env} {h₀ : Heap} {x : Str} {body : List Stmt} {Q : Flow → Shared → Prop}
/-- for x in reversed(range(1)) -/
theorem for_rev1 {r : Addr} {b : Int} {t₀ u₀ v₀ : Tok} {m₀ : Str → Option Value} {news : List (Addr × Obj)} (J : (Str → Option Value) → List (Addr × Obj) → Prop)
    (hh : A.handled = none) (hr : IsRange s.heap r 0 b 1 t₀ u₀ v₀) (hb : b = 1) (F : Fr h₀ env.locals s.heap m₀) (N : News h₀ env.locals s.heap news)
    (turn : ∀ t h tk own, OwnOff own (news.map (·.1)) → Fr h₀ env.locals h (fun y => if y = x then some (.int 0 t) else m₀ y) → News h₀ env.locals h (news ++ own) →
      wpAny (model prog w) A (execs body env) (InvPostN h₀ env.locals J own (news.map (·.1)) { s with heap := h, toks := tk } Q) E { s with heap := h, toks := tk })
    (done : ∀ m₁ news₁ h tk, J m₁ news₁ → Fr h₀ env.locals h m₁ → News h₀ env.locals h news₁ → Q .next { s with heap := h, toks := tk }) :
    wpAny (model prog w) A (call (.type "reversed") [.ref r]) (fun xv s₁ => wpAny (model prog w) A (pyIter xv) (fun it s₂ => LoopAtV prog w A h₀ env x body Q E it s₂) E s₁) E s := by
  subst hb
  refine call_reversed_range hr ?_
  refine wpAny_pyIter_rangeiter (x := 0) (left := 1) (step := -1) (Heap.get?_push_size _ rfl) ?_
  have W : Walks prog w A s.heap.objs.size [s.heap.objs.size] [s.heap.objs.size] 1 (fun i v => i < 1 ∧ ∃ t, v = .int (0 + i * -1) t)
      (fun i h => IsRangeIter h s.heap.objs.size (0 + (i : Nat) * -1) (((1 : Nat) : Int) - (i : Nat)) (-1)) := (Walks.range hh _ 0 (-1) 1).bound
  refine loop_invN (fun i m nx => (i = 0 ∧ m = m₀ ∧ nx = news) ∨ (i = 1 ∧ J m nx)) W ?_ ?_ ?_ ?_ (by show IsRangeIter _ _ _ _ _; exact Heap.get?_push_size _ rfl) (F.push _) (fun p hp => ⟨Heap.get?_push_of_some _ (N p hp).1, (N p hp).2⟩) (.inl ⟨rfl, rfl, rfl⟩) ?_ ?_
  · intro hm
    exact absurd F.ns.lt ((List.mem_singleton.mp hm) ▸ Nat.lt_irrefl _)
  · intro b hb
    rw [List.mem_singleton.mp hb]
    exact next_is_new F
  · intro p hp hI
    exact absurd (Heap.lt_size (N p hp).1) ((List.mem_singleton.mp hI) ▸ Nat.lt_irrefl _)
  · intro p hp hI
    exact absurd (Heap.lt_size (N p hp).1) ((List.mem_singleton.mp hI) ▸ Nat.lt_irrefl _)
  · rintro i v m₁ nx h tk own hi ⟨_, t, rfl⟩ ha hoff hJ F₁ N₁
    rcases hJ with ⟨rfl, rfl, rfl⟩ | ⟨rfl, _⟩
    · refine wpAny_mono (turn t h tk own hoff F₁ N₁) (fun f s₂ q => ?_) fun _ _ e => e
      have up : InvEndN h₀ env.locals J own (nx.map (·.1)) { s with heap := h, toks := tk } s₂ → InvEndN h₀ env.locals (fun m nx' => (0 + 1 = 0 ∧ m = m₁ ∧ nx' = nx) ∨ (0 + 1 = 1 ∧ J m nx')) own (nx.map (·.1)) { s with heap := h, toks := tk } s₂ := by
        rintro ⟨h', tk', m', news', nx', e, F', N', hn, ho, ha', j⟩
        exact ⟨h', tk', m', news', nx', e, F', N', hn, ho, ha', .inr ⟨rfl, j⟩⟩
      cases f with
      | ret v => exact q
      | brk => exact q
      | next => exact up q
      | cont => exact up q
    · exact absurd hi (Nat.lt_irrefl _)
  · rintro m₁ nx h tk hJ F₁ N₁
    rcases hJ with ⟨e, _⟩ | ⟨_, j⟩
    · exact absurd e (by decide)
    · exact done m₁ nx h tk j F₁ N₁
end
end Mine
end

local macro_rules | `(tactic| k_mem) => `(tactic| first | (with_reducible assumption) | (with_reducible refine List.mem_cons_of_mem _ ?_; k_mem))
section
theorem Mine.offS6 : True := by
  w_top off
  trivial
open PySem PySem.W PyProof.Rows
set_option Elab.async false
set_option maxRecDepth 100000
set_option maxHeartbeats 8000000
namespace Mine
local macro_rules | `(tactic| walk_at "compareOp Lt ref") => `(tactic| ((with_reducible show wpAny _ _ (compareOp CmpOp.Lt (Value.ref _) (Value.ref _)) _ _ _); k_dflt (refine' tuple_lt ?t1 ?t2 ?t3 ?t4 ?_; (case t1 => first | ktr_units | k_units); (case t2 | t3 => exact News.get (by k_asm) (by k_mem)); (case t4 => first | assumption | exact Ne.symm (by assumption)))))
noncomputable abbrev RetHL (H : Addr) (news : List (Addr × Obj)) (its : List Value) (v : Value) : Heap → Addr → (Str → Option Value) → Shared → (Value → Shared → Prop) → Prop :=
  fun h₀ L m s Q => ∀ (n' : Nat) (h' : Heap) (tk' : Nat), Fr h₀ L h' m → News h₀ L h' ((H, listOf its.toArray n') :: news) → Q v { s with heap := h', toks := tk' }
theorem down2_spc {w : World} {mean : ExcName → Option Value} {mg mb : Str → Option Value} {news : List (Addr × Obj)} {H x y : Addr} {n nx ny : Nat} {a k p b j q : Int} {ta tk tp tb tj tq u1 u2 : Tok} (hx : (x, tup3 a ta k tk p tp nx) ∈ news) (hy : (y, tup3 b tb j tj q tq ny) ∈ news) (hH : ∀ p ∈ news, p.1 ≠ H) (hkj : k ≠ j) :
    Spc w mean mg mb 60 2 ((H, listOf [Value.ref x, Value.ref y].toArray n) :: news) [.ref H, .int 0 u1, .int 1 u2]
      (RetHL H news (if lt2 b j a k = true then [Value.ref y, Value.ref x] else [Value.ref x, Value.ref y]) .none) := by
  dsimp only [Spc, RetHL]
  k_fill
  intros; rename_i hret
  refine wpAny_call ?_
  k_dflt (refine' code_def (binds := [(Str.ofString "heap", .ref H), (Str.ofString "startpos", .int 0 u1), (Str.ofString "pos", .int 1 u2)]) ?k1 ?k2 ?k3 ?k4 ?k5 ?kA ?kF ?kK ?k6 ?k7 ?k8 ?k9 ?kB ?_ ?c2 ?c3 ?c4 ?c5; (case kA => exact rfl); (case kF => exact rfl); (case kK => assumption); (case k1 => k_asm); (case k2 => k_asm); (case k3 => k_asm); (case k4 => k_asm); (case k5 => k_asm); (case k6 => k_is); (case k7 => k_is); (case k8 => first | exact Nat.le_of_ble_eq_true rfl | ktr_room); (case k9 => exact BindsTo.of_eq rfl); (case c5 => decide); (case kB => exact locs rfl); (case c2 => exact rfl); (case c3 => exact rfl); (case c4 => exact rfl); k_whole; intro g' L' h' FG' F' N' B' X' T'; (try dsimp only); (try k_lift B'); (try k_fold))
  repeat' ((fail_if_success (with_reducible show LCg.CompSrc _ _ _ _ _ _ _ _ _ _ _ _ _ _)); (fail_if_success (with_reducible show LCg.CompEnd _ _ _ _ _ _ _ _ _ _ _ _ _ _)); (fail_if_success (with_reducible show InvPostR _ _ _ _ _ _ _ _)); (fail_if_success (with_reducible show Mid0 _ _ _ _ _ _)); (fail_if_success (with_reducible show WhileStep2 _ _ _ _ _ _ _ _)); (fail_if_success (with_reducible show InvPostN _ _ _ _ _ _ _ _ _)); (fail_if_success (with_reducible show wpAny _ _ (exec (Stmt.While _ _ _ _) _) _ _ _)); (fail_if_success (with_reducible show wpAny _ _ (exec (Stmt.For _ _ _ _ _) _) _ _ _)); first | (k_unfold; (try dsimp only)) | ((with_reducible refine hqk _ _ ?_); (try dsimp only)) | (walk1 <;> (try dsimp only)) | (dsimp only; walk1) | (leave1; walk_say "STEP leave1"; try dsimp only) | fail "no step")
  (rename Fr _ _ _ _ => F1); (rename News _ _ _ _ => N1)
  k_dflt (refine whl_start 5 ?_)
  repeat' ((fail_if_success (with_reducible show LCg.CompSrc _ _ _ _ _ _ _ _ _ _ _ _ _ _)); (fail_if_success (with_reducible show LCg.CompEnd _ _ _ _ _ _ _ _ _ _ _ _ _ _)); (fail_if_success (with_reducible show InvPostR _ _ _ _ _ _ _ _)); (fail_if_success (with_reducible show Mid0 _ _ _ _ _ _)); (fail_if_success (with_reducible show WhileStep2 _ _ _ _ _ _ _ _)); (fail_if_success (with_reducible show InvPostN _ _ _ _ _ _ _ _ _)); (fail_if_success (with_reducible show wpAny _ _ (exec (Stmt.While _ _ _ _) _) _ _ _)); (fail_if_success (with_reducible show wpAny _ _ (exec (Stmt.For _ _ _ _ _) _) _ _ _)); first | (k_unfold; (try dsimp only)) | ((with_reducible refine hqk _ _ ?_); (try dsimp only)) | (walk1 <;> (try dsimp only)) | (dsimp only; walk1) | (leave1; walk_say "STEP leave1"; try dsimp only) | fail "no step")
  · rename lt2 b j a k = true => hq
    rw [if_pos hq] at hret
    exact hret _ _ _ (by k_asm) (by k_asm)
  · rename lt2 b j a k = false => hq
    rw [if_neg (by rw [hq]; exact Bool.false_ne_true)] at hret
    exact hret _ _ _ (by k_asm) (by k_asm)
theorem down1_spc {w : World} {mean : ExcName → Option Value} {mg mb : Str → Option Value} {news : List (Addr × Obj)} {H x : Addr} {n : Nat} {u1 u2 : Tok} (hH : ∀ p ∈ news, p.1 ≠ H) :
    Spc w mean mg mb 60 2 ((H, listOf [Value.ref x].toArray n) :: news) [.ref H, .int 0 u1, .int 0 u2] (RetHL H news [Value.ref x] .none) := by
  dsimp only [Spc, RetHL]
  k_fill
  intros; rename_i hret
  refine wpAny_call ?_
  k_dflt (refine' code_def (binds := [(Str.ofString "heap", .ref H), (Str.ofString "startpos", .int 0 u1), (Str.ofString "pos", .int 0 u2)]) ?k1 ?k2 ?k3 ?k4 ?k5 ?kA ?kF ?kK ?k6 ?k7 ?k8 ?k9 ?kB ?_ ?c2 ?c3 ?c4 ?c5; (case kA => exact rfl); (case kF => exact rfl); (case kK => assumption); (case k1 => k_asm); (case k2 => k_asm); (case k3 => k_asm); (case k4 => k_asm); (case k5 => k_asm); (case k6 => k_is); (case k7 => k_is); (case k8 => first | exact Nat.le_of_ble_eq_true rfl | ktr_room); (case k9 => exact BindsTo.of_eq rfl); (case c5 => decide); (case kB => exact locs rfl); (case c2 => exact rfl); (case c3 => exact rfl); (case c4 => exact rfl); k_whole; intro g' L' h' FG' F' N' B' X' T'; (try dsimp only); (try k_lift B'); (try k_fold))
  repeat' ((fail_if_success (with_reducible show LCg.CompSrc _ _ _ _ _ _ _ _ _ _ _ _ _ _)); (fail_if_success (with_reducible show LCg.CompEnd _ _ _ _ _ _ _ _ _ _ _ _ _ _)); (fail_if_success (with_reducible show InvPostR _ _ _ _ _ _ _ _)); (fail_if_success (with_reducible show Mid0 _ _ _ _ _ _)); (fail_if_success (with_reducible show WhileStep2 _ _ _ _ _ _ _ _)); (fail_if_success (with_reducible show InvPostN _ _ _ _ _ _ _ _ _)); (fail_if_success (with_reducible show wpAny _ _ (exec (Stmt.While _ _ _ _) _) _ _ _)); (fail_if_success (with_reducible show wpAny _ _ (exec (Stmt.For _ _ _ _ _) _) _ _ _)); first | (k_unfold; (try dsimp only)) | ((with_reducible refine hqk _ _ ?_); (try dsimp only)) | (walk1 <;> (try dsimp only)) | (dsimp only; walk1) | (leave1; walk_say "STEP leave1"; try dsimp only) | fail "no step")
  (rename Fr _ _ _ _ => F1); (rename News _ _ _ _ => N1)
  k_dflt (refine whl_start 5 ?_)
  repeat' ((fail_if_success (with_reducible show LCg.CompSrc _ _ _ _ _ _ _ _ _ _ _ _ _ _)); (fail_if_success (with_reducible show LCg.CompEnd _ _ _ _ _ _ _ _ _ _ _ _ _ _)); (fail_if_success (with_reducible show InvPostR _ _ _ _ _ _ _ _)); (fail_if_success (with_reducible show Mid0 _ _ _ _ _ _)); (fail_if_success (with_reducible show WhileStep2 _ _ _ _ _ _ _ _)); (fail_if_success (with_reducible show InvPostN _ _ _ _ _ _ _ _ _)); (fail_if_success (with_reducible show wpAny _ _ (exec (Stmt.While _ _ _ _) _) _ _ _)); (fail_if_success (with_reducible show wpAny _ _ (exec (Stmt.For _ _ _ _ _) _) _ _ _)); first | (k_unfold; (try dsimp only)) | ((with_reducible refine hqk _ _ ?_); (try dsimp only)) | (walk1 <;> (try dsimp only)) | (dsimp only; walk1) | (leave1; walk_say "STEP leave1"; try dsimp only) | fail "no step")
  exact hret _ _ _ (by k_asm) (by k_asm)
theorem up2_spc {w : World} {mean : ExcName → Option Value} {mg mb : Str → Option Value} {news : List (Addr × Obj)} {H x y : Addr} {n nx ny : Nat} {a k p b j q : Int} {ta tk tp tb tj tq u1 : Tok} (hx : (x, tup3 a ta k tk p tp nx) ∈ news) (hy : (y, tup3 b tb j tj q tq ny) ∈ news) (hH : ∀ p ∈ news, p.1 ≠ H) (hkj : k ≠ j) :
    Spc w mean mg mb 67 4 ((H, listOf [Value.ref x, Value.ref y].toArray n) :: news) [.ref H, .int 0 u1]
      (RetHL H news (if lt2 a k b j = true then [Value.ref x, Value.ref y] else [Value.ref y, Value.ref x]) .none) := by
  dsimp only [Spc, RetHL]
  k_fill
  intros; rename_i hret
  refine wpAny_call ?_
  k_dflt (refine' code_def (binds := [(Str.ofString "heap", .ref H), (Str.ofString "pos", .int 0 u1)]) ?k1 ?k2 ?k3 ?k4 ?k5 ?kA ?kF ?kK ?k6 ?k7 ?k8 ?k9 ?kB ?_ ?c2 ?c3 ?c4 ?c5; (case kA => exact rfl); (case kF => exact rfl); (case kK => assumption); (case k1 => k_asm); (case k2 => k_asm); (case k3 => k_asm); (case k4 => k_asm); (case k5 => k_asm); (case k6 => k_is); (case k7 => k_is); (case k8 => first | exact Nat.le_of_ble_eq_true rfl | ktr_room); (case k9 => exact BindsTo.of_eq rfl); (case c5 => decide); (case kB => exact locs rfl); (case c2 => exact rfl); (case c3 => exact rfl); (case c4 => exact rfl); k_whole; intro g' L' h' FG' F' N' B' X' T'; (try dsimp only); (try k_lift B'); (try k_fold))
  repeat' ((fail_if_success (with_reducible show LCg.CompSrc _ _ _ _ _ _ _ _ _ _ _ _ _ _)); (fail_if_success (with_reducible show LCg.CompEnd _ _ _ _ _ _ _ _ _ _ _ _ _ _)); (fail_if_success (with_reducible show InvPostR _ _ _ _ _ _ _ _)); (fail_if_success (with_reducible show Mid0 _ _ _ _ _ _)); (fail_if_success (with_reducible show WhileStep2 _ _ _ _ _ _ _ _)); (fail_if_success (with_reducible show InvPostN _ _ _ _ _ _ _ _ _)); (fail_if_success (with_reducible show wpAny _ _ (exec (Stmt.While _ _ _ _) _) _ _ _)); (fail_if_success (with_reducible show wpAny _ _ (exec (Stmt.For _ _ _ _ _) _) _ _ _)); first | (k_unfold; (try dsimp only)) | ((with_reducible refine hqk _ _ ?_); (try dsimp only)) | (walk1 <;> (try dsimp only)) | (dsimp only; walk1) | (leave1; walk_say "STEP leave1"; try dsimp only) | fail "no step")
  (rename Fr _ _ _ _ => F1); (rename News _ _ _ _ => N1)
  k_dflt (refine whl_start 5 ?_)
  repeat' ((fail_if_success (with_reducible show wpAny _ _ (call (Value.ref _) _) _ _ _)); (fail_if_success (with_reducible show LCg.CompSrc _ _ _ _ _ _ _ _ _ _ _ _ _ _)); (fail_if_success (with_reducible show LCg.CompEnd _ _ _ _ _ _ _ _ _ _ _ _ _ _)); (fail_if_success (with_reducible show InvPostR _ _ _ _ _ _ _ _)); (fail_if_success (with_reducible show Mid0 _ _ _ _ _ _)); (fail_if_success (with_reducible show WhileStep2 _ _ _ _ _ _ _ _)); (fail_if_success (with_reducible show InvPostN _ _ _ _ _ _ _ _ _)); (fail_if_success (with_reducible show wpAny _ _ (exec (Stmt.While _ _ _ _) _) _ _ _)); (fail_if_success (with_reducible show wpAny _ _ (exec (Stmt.For _ _ _ _ _) _) _ _ _)); first | (k_unfold; (try dsimp only)) | ((with_reducible refine hqk _ _ ?_); (try dsimp only)) | (walk1 <;> (try dsimp only)) | (dsimp only; walk1) | (leave1; walk_say "STEP leave1"; try dsimp only) | fail "no step")
  refine' spc_use (down2_spc ?a1up2_ ?a2up2_ ?a3up2_ ?a4up2_) ?k1 ?k2 ?k3 ?k4 ?k5 ?k6 ?k7 ?k8 ?_
  (case k1 | k2 | k3 | k4 | k5 => k_asm); (case k6 => first | exact rfl | assumption); (case k7 => ktr_room); (case k8 => ktr_units)
  (case a1up2_ | a2up2_ | a3up2_ => assumption)
  (case a4up2_ => first | assumption | exact Ne.symm (by assumption))
  dsimp only [RetHL]
  intro tS hS kS FS NS
  repeat' ((fail_if_success (with_reducible show LCg.CompSrc _ _ _ _ _ _ _ _ _ _ _ _ _ _)); (fail_if_success (with_reducible show LCg.CompEnd _ _ _ _ _ _ _ _ _ _ _ _ _ _)); (fail_if_success (with_reducible show InvPostR _ _ _ _ _ _ _ _)); (fail_if_success (with_reducible show Mid0 _ _ _ _ _ _)); (fail_if_success (with_reducible show WhileStep2 _ _ _ _ _ _ _ _)); (fail_if_success (with_reducible show InvPostN _ _ _ _ _ _ _ _ _)); (fail_if_success (with_reducible show wpAny _ _ (exec (Stmt.While _ _ _ _) _) _ _ _)); (fail_if_success (with_reducible show wpAny _ _ (exec (Stmt.For _ _ _ _ _) _) _ _ _)); first | (k_unfold; (try dsimp only)) | ((with_reducible refine hqk _ _ ?_); (try dsimp only)) | (walk1 <;> (try dsimp only)) | (dsimp only; walk1) | (leave1; walk_say "STEP leave1"; try dsimp only) | fail "no step")
  exact hret _ _ _ (by k_asm) (by k_asm)
theorem up1_spc {w : World} {mean : ExcName → Option Value} {mg mb : Str → Option Value} {news : List (Addr × Obj)} {H x : Addr} {n : Nat} {u1 : Tok} (hH : ∀ p ∈ news, p.1 ≠ H) :
    Spc w mean mg mb 67 4 ((H, listOf [Value.ref x].toArray n) :: news) [.ref H, .int 0 u1] (RetHL H news [Value.ref x] .none) := by
  dsimp only [Spc, RetHL]
  k_fill
  intros; rename_i hret
  refine wpAny_call ?_
  k_dflt (refine' code_def (binds := [(Str.ofString "heap", .ref H), (Str.ofString "pos", .int 0 u1)]) ?k1 ?k2 ?k3 ?k4 ?k5 ?kA ?kF ?kK ?k6 ?k7 ?k8 ?k9 ?kB ?_ ?c2 ?c3 ?c4 ?c5; (case kA => exact rfl); (case kF => exact rfl); (case kK => assumption); (case k1 => k_asm); (case k2 => k_asm); (case k3 => k_asm); (case k4 => k_asm); (case k5 => k_asm); (case k6 => k_is); (case k7 => k_is); (case k8 => first | exact Nat.le_of_ble_eq_true rfl | ktr_room); (case k9 => exact BindsTo.of_eq rfl); (case c5 => decide); (case kB => exact locs rfl); (case c2 => exact rfl); (case c3 => exact rfl); (case c4 => exact rfl); k_whole; intro g' L' h' FG' F' N' B' X' T'; (try dsimp only); (try k_lift B'); (try k_fold))
  repeat' ((fail_if_success (with_reducible show LCg.CompSrc _ _ _ _ _ _ _ _ _ _ _ _ _ _)); (fail_if_success (with_reducible show LCg.CompEnd _ _ _ _ _ _ _ _ _ _ _ _ _ _)); (fail_if_success (with_reducible show InvPostR _ _ _ _ _ _ _ _)); (fail_if_success (with_reducible show Mid0 _ _ _ _ _ _)); (fail_if_success (with_reducible show WhileStep2 _ _ _ _ _ _ _ _)); (fail_if_success (with_reducible show InvPostN _ _ _ _ _ _ _ _ _)); (fail_if_success (with_reducible show wpAny _ _ (exec (Stmt.While _ _ _ _) _) _ _ _)); (fail_if_success (with_reducible show wpAny _ _ (exec (Stmt.For _ _ _ _ _) _) _ _ _)); first | (k_unfold; (try dsimp only)) | ((with_reducible refine hqk _ _ ?_); (try dsimp only)) | (walk1 <;> (try dsimp only)) | (dsimp only; walk1) | (leave1; walk_say "STEP leave1"; try dsimp only) | fail "no step")
  (rename Fr _ _ _ _ => F1); (rename News _ _ _ _ => N1)
  k_dflt (refine whl_start 5 ?_)
  repeat' ((fail_if_success (with_reducible show wpAny _ _ (call (Value.ref _) _) _ _ _)); (fail_if_success (with_reducible show LCg.CompSrc _ _ _ _ _ _ _ _ _ _ _ _ _ _)); (fail_if_success (with_reducible show LCg.CompEnd _ _ _ _ _ _ _ _ _ _ _ _ _ _)); (fail_if_success (with_reducible show InvPostR _ _ _ _ _ _ _ _)); (fail_if_success (with_reducible show Mid0 _ _ _ _ _ _)); (fail_if_success (with_reducible show WhileStep2 _ _ _ _ _ _ _ _)); (fail_if_success (with_reducible show InvPostN _ _ _ _ _ _ _ _ _)); (fail_if_success (with_reducible show wpAny _ _ (exec (Stmt.While _ _ _ _) _) _ _ _)); (fail_if_success (with_reducible show wpAny _ _ (exec (Stmt.For _ _ _ _ _) _) _ _ _)); first | (k_unfold; (try dsimp only)) | ((with_reducible refine hqk _ _ ?_); (try dsimp only)) | (walk1 <;> (try dsimp only)) | (dsimp only; walk1) | (leave1; walk_say "STEP leave1"; try dsimp only) | fail "no step")
  refine' spc_use (down1_spc ?a3up1_) ?k1 ?k2 ?k3 ?k4 ?k5 ?k6 ?k7 ?k8 ?_
  (case k1 | k2 | k3 | k4 | k5 => k_asm); (case k6 => first | exact rfl | assumption); (case k7 => ktr_room); (case k8 => ktr_units)
  (case a3up1_ => assumption)
  dsimp only [RetHL]
  intro tS hS kS FS NS
  repeat' ((fail_if_success (with_reducible show LCg.CompSrc _ _ _ _ _ _ _ _ _ _ _ _ _ _)); (fail_if_success (with_reducible show LCg.CompEnd _ _ _ _ _ _ _ _ _ _ _ _ _ _)); (fail_if_success (with_reducible show InvPostR _ _ _ _ _ _ _ _)); (fail_if_success (with_reducible show Mid0 _ _ _ _ _ _)); (fail_if_success (with_reducible show WhileStep2 _ _ _ _ _ _ _ _)); (fail_if_success (with_reducible show InvPostN _ _ _ _ _ _ _ _ _)); (fail_if_success (with_reducible show wpAny _ _ (exec (Stmt.While _ _ _ _) _) _ _ _)); (fail_if_success (with_reducible show wpAny _ _ (exec (Stmt.For _ _ _ _ _) _) _ _ _)); first | (k_unfold; (try dsimp only)) | ((with_reducible refine hqk _ _ ?_); (try dsimp only)) | (walk1 <;> (try dsimp only)) | (dsimp only; walk1) | (leave1; walk_say "STEP leave1"; try dsimp only) | fail "no step")
  exact hret _ _ _ (by k_asm) (by k_asm)
theorem repl2_spc {w : World} {mean : ExcName → Option Value} {mg mb : Str → Option Value} {news : List (Addr × Obj)} {H x y z : Addr} {n nx ny : Nat} {a k p b j q : Int} {ta tk tp tb tj tq : Tok} (hz : (z, tup3 a ta k tk p tp nx) ∈ news) (hy : (y, tup3 b tb j tj q tq ny) ∈ news) (hH : ∀ p ∈ news, p.1 ≠ H) (hkj : k ≠ j) :
    Spc w mean mg mb 46 6 ((H, listOf [Value.ref x, Value.ref y].toArray n) :: news) [.ref H, .ref z]
      (RetHL H news (if lt2 a k b j = true then [Value.ref z, Value.ref y] else [Value.ref y, Value.ref z]) (.ref x)) := by
  dsimp only [Spc, RetHL]
  k_fill
  intros; rename_i hret
  refine wpAny_call ?_
  k_dflt (refine' code_def (binds := [(Str.ofString "heap", .ref H), (Str.ofString "item", .ref z)]) ?k1 ?k2 ?k3 ?k4 ?k5 ?kA ?kF ?kK ?k6 ?k7 ?k8 ?k9 ?kB ?_ ?c2 ?c3 ?c4 ?c5; (case kA => exact rfl); (case kF => exact rfl); (case kK => assumption); (case k1 => k_asm); (case k2 => k_asm); (case k3 => k_asm); (case k4 => k_asm); (case k5 => k_asm); (case k6 => k_is); (case k7 => k_is); (case k8 => first | exact Nat.le_of_ble_eq_true rfl | ktr_room); (case k9 => exact BindsTo.of_eq rfl); (case c5 => decide); (case kB => exact locs rfl); (case c2 => exact rfl); (case c3 => exact rfl); (case c4 => exact rfl); k_whole; intro g' L' h' FG' F' N' B' X' T'; (try dsimp only); (try k_lift B'); (try k_fold))
  repeat' ((fail_if_success (with_reducible show wpAny _ _ (call (Value.ref _) _) _ _ _)); (fail_if_success (with_reducible show LCg.CompSrc _ _ _ _ _ _ _ _ _ _ _ _ _ _)); (fail_if_success (with_reducible show LCg.CompEnd _ _ _ _ _ _ _ _ _ _ _ _ _ _)); (fail_if_success (with_reducible show InvPostR _ _ _ _ _ _ _ _)); (fail_if_success (with_reducible show Mid0 _ _ _ _ _ _)); (fail_if_success (with_reducible show WhileStep2 _ _ _ _ _ _ _ _)); (fail_if_success (with_reducible show InvPostN _ _ _ _ _ _ _ _ _)); (fail_if_success (with_reducible show wpAny _ _ (exec (Stmt.While _ _ _ _) _) _ _ _)); (fail_if_success (with_reducible show wpAny _ _ (exec (Stmt.For _ _ _ _ _) _) _ _ _)); first | (k_unfold; (try dsimp only)) | ((with_reducible refine hqk _ _ ?_); (try dsimp only)) | (walk1 <;> (try dsimp only)) | (dsimp only; walk1) | (leave1; walk_say "STEP leave1"; try dsimp only) | fail "no step")
  refine' spc_use (up2_spc ?a1repl ?a2repl ?a3repl ?a4repl) ?k1 ?k2 ?k3 ?k4 ?k5 ?k6 ?k7 ?k8 ?_
  (case k1 | k2 | k3 | k4 | k5 => k_asm); (case k6 => first | exact rfl | assumption); (case k7 => ktr_room); (case k8 => ktr_units)
  (case a1repl | a2repl | a3repl => assumption)
  (case a4repl => first | assumption | exact Ne.symm (by assumption))
  dsimp only [RetHL]
  intro tS hS kS FS NS
  repeat' ((fail_if_success (with_reducible show LCg.CompSrc _ _ _ _ _ _ _ _ _ _ _ _ _ _)); (fail_if_success (with_reducible show LCg.CompEnd _ _ _ _ _ _ _ _ _ _ _ _ _ _)); (fail_if_success (with_reducible show InvPostR _ _ _ _ _ _ _ _)); (fail_if_success (with_reducible show Mid0 _ _ _ _ _ _)); (fail_if_success (with_reducible show WhileStep2 _ _ _ _ _ _ _ _)); (fail_if_success (with_reducible show InvPostN _ _ _ _ _ _ _ _ _)); (fail_if_success (with_reducible show wpAny _ _ (exec (Stmt.While _ _ _ _) _) _ _ _)); (fail_if_success (with_reducible show wpAny _ _ (exec (Stmt.For _ _ _ _ _) _) _ _ _)); first | (k_unfold; (try dsimp only)) | ((with_reducible refine hqk _ _ ?_); (try dsimp only)) | (walk1 <;> (try dsimp only)) | (dsimp only; walk1) | (leave1; walk_say "STEP leave1"; try dsimp only) | fail "no step")
  exact hret _ _ _ (by k_asm) (by k_asm)
theorem repl1_spc {w : World} {mean : ExcName → Option Value} {mg mb : Str → Option Value} {news : List (Addr × Obj)} {H x z : Addr} {n : Nat} (hH : ∀ p ∈ news, p.1 ≠ H) :
    Spc w mean mg mb 46 6 ((H, listOf [Value.ref x].toArray n) :: news) [.ref H, .ref z] (RetHL H news [Value.ref z] (.ref x)) := by
  dsimp only [Spc, RetHL]
  k_fill
  intros; rename_i hret
  refine wpAny_call ?_
  k_dflt (refine' code_def (binds := [(Str.ofString "heap", .ref H), (Str.ofString "item", .ref z)]) ?k1 ?k2 ?k3 ?k4 ?k5 ?kA ?kF ?kK ?k6 ?k7 ?k8 ?k9 ?kB ?_ ?c2 ?c3 ?c4 ?c5; (case kA => exact rfl); (case kF => exact rfl); (case kK => assumption); (case k1 => k_asm); (case k2 => k_asm); (case k3 => k_asm); (case k4 => k_asm); (case k5 => k_asm); (case k6 => k_is); (case k7 => k_is); (case k8 => first | exact Nat.le_of_ble_eq_true rfl | ktr_room); (case k9 => exact BindsTo.of_eq rfl); (case c5 => decide); (case kB => exact locs rfl); (case c2 => exact rfl); (case c3 => exact rfl); (case c4 => exact rfl); k_whole; intro g' L' h' FG' F' N' B' X' T'; (try dsimp only); (try k_lift B'); (try k_fold))
  repeat' ((fail_if_success (with_reducible show wpAny _ _ (call (Value.ref _) _) _ _ _)); (fail_if_success (with_reducible show LCg.CompSrc _ _ _ _ _ _ _ _ _ _ _ _ _ _)); (fail_if_success (with_reducible show LCg.CompEnd _ _ _ _ _ _ _ _ _ _ _ _ _ _)); (fail_if_success (with_reducible show InvPostR _ _ _ _ _ _ _ _)); (fail_if_success (with_reducible show Mid0 _ _ _ _ _ _)); (fail_if_success (with_reducible show WhileStep2 _ _ _ _ _ _ _ _)); (fail_if_success (with_reducible show InvPostN _ _ _ _ _ _ _ _ _)); (fail_if_success (with_reducible show wpAny _ _ (exec (Stmt.While _ _ _ _) _) _ _ _)); (fail_if_success (with_reducible show wpAny _ _ (exec (Stmt.For _ _ _ _ _) _) _ _ _)); first | (k_unfold; (try dsimp only)) | ((with_reducible refine hqk _ _ ?_); (try dsimp only)) | (walk1 <;> (try dsimp only)) | (dsimp only; walk1) | (leave1; walk_say "STEP leave1"; try dsimp only) | fail "no step")
  refine' spc_use (up1_spc ?a3repl) ?k1 ?k2 ?k3 ?k4 ?k5 ?k6 ?k7 ?k8 ?_
  (case k1 | k2 | k3 | k4 | k5 => k_asm); (case k6 => first | exact rfl | assumption); (case k7 => ktr_room); (case k8 => ktr_units)
  (case a3repl => assumption)
  dsimp only [RetHL]
  intro tS hS kS FS NS
  repeat' ((fail_if_success (with_reducible show LCg.CompSrc _ _ _ _ _ _ _ _ _ _ _ _ _ _)); (fail_if_success (with_reducible show LCg.CompEnd _ _ _ _ _ _ _ _ _ _ _ _ _ _)); (fail_if_success (with_reducible show InvPostR _ _ _ _ _ _ _ _)); (fail_if_success (with_reducible show Mid0 _ _ _ _ _ _)); (fail_if_success (with_reducible show WhileStep2 _ _ _ _ _ _ _ _)); (fail_if_success (with_reducible show InvPostN _ _ _ _ _ _ _ _ _)); (fail_if_success (with_reducible show wpAny _ _ (exec (Stmt.While _ _ _ _) _) _ _ _)); (fail_if_success (with_reducible show wpAny _ _ (exec (Stmt.For _ _ _ _ _) _) _ _ _)); first | (k_unfold; (try dsimp only)) | ((with_reducible refine hqk _ _ ?_); (try dsimp only)) | (walk1 <;> (try dsimp only)) | (dsimp only; walk1) | (leave1; walk_say "STEP leave1"; try dsimp only) | fail "no step")
  exact hret _ _ _ (by k_asm) (by k_asm)
theorem pop2_spc {w : World} {mean : ExcName → Option Value} {mg mb : Str → Option Value} {news : List (Addr × Obj)} {H x y : Addr} {n : Nat} (hH : ∀ p ∈ news, p.1 ≠ H) :
    Spc w mean mg mb 39 6 ((H, listOf [Value.ref x, Value.ref y].toArray n) :: news) [.ref H] (RetHL H news [Value.ref y] (.ref x)) := by
  dsimp only [Spc, RetHL]
  k_fill
  intros; rename_i hret
  refine wpAny_call ?_
  k_dflt (refine' code_def (binds := [(Str.ofString "heap", .ref H)]) ?k1 ?k2 ?k3 ?k4 ?k5 ?kA ?kF ?kK ?k6 ?k7 ?k8 ?k9 ?kB ?_ ?c2 ?c3 ?c4 ?c5; (case kA => exact rfl); (case kF => exact rfl); (case kK => assumption); (case k1 => k_asm); (case k2 => k_asm); (case k3 => k_asm); (case k4 => k_asm); (case k5 => k_asm); (case k6 => k_is); (case k7 => k_is); (case k8 => first | exact Nat.le_of_ble_eq_true rfl | ktr_room); (case k9 => exact BindsTo.of_eq rfl); (case c5 => decide); (case kB => exact locs rfl); (case c2 => exact rfl); (case c3 => exact rfl); (case c4 => exact rfl); k_whole; intro g' L' h' FG' F' N' B' X' T'; (try dsimp only); (try k_lift B'); (try k_fold))
  repeat' ((fail_if_success (with_reducible show wpAny _ _ (call (Value.ref _) _) _ _ _)); (fail_if_success (with_reducible show LCg.CompSrc _ _ _ _ _ _ _ _ _ _ _ _ _ _)); (fail_if_success (with_reducible show LCg.CompEnd _ _ _ _ _ _ _ _ _ _ _ _ _ _)); (fail_if_success (with_reducible show InvPostR _ _ _ _ _ _ _ _)); (fail_if_success (with_reducible show Mid0 _ _ _ _ _ _)); (fail_if_success (with_reducible show WhileStep2 _ _ _ _ _ _ _ _)); (fail_if_success (with_reducible show InvPostN _ _ _ _ _ _ _ _ _)); (fail_if_success (with_reducible show wpAny _ _ (exec (Stmt.While _ _ _ _) _) _ _ _)); (fail_if_success (with_reducible show wpAny _ _ (exec (Stmt.For _ _ _ _ _) _) _ _ _)); first | (k_unfold; (try dsimp only)) | ((with_reducible refine hqk _ _ ?_); (try dsimp only)) | (walk1 <;> (try dsimp only)) | (dsimp only; walk1) | (leave1; walk_say "STEP leave1"; try dsimp only) | fail "no step")
  refine' spc_use (up1_spc ?a3pop2) ?k1 ?k2 ?k3 ?k4 ?k5 ?k6 ?k7 ?k8 ?_
  (case k1 | k2 | k3 | k4 | k5 => k_asm); (case k6 => first | exact rfl | assumption); (case k7 => ktr_room); (case k8 => ktr_units)
  (case a3pop2 => assumption)
  dsimp only [RetHL]
  intro tS hS kS FS NS
  repeat' ((fail_if_success (with_reducible show LCg.CompSrc _ _ _ _ _ _ _ _ _ _ _ _ _ _)); (fail_if_success (with_reducible show LCg.CompEnd _ _ _ _ _ _ _ _ _ _ _ _ _ _)); (fail_if_success (with_reducible show InvPostR _ _ _ _ _ _ _ _)); (fail_if_success (with_reducible show Mid0 _ _ _ _ _ _)); (fail_if_success (with_reducible show WhileStep2 _ _ _ _ _ _ _ _)); (fail_if_success (with_reducible show InvPostN _ _ _ _ _ _ _ _ _)); (fail_if_success (with_reducible show wpAny _ _ (exec (Stmt.While _ _ _ _) _) _ _ _)); (fail_if_success (with_reducible show wpAny _ _ (exec (Stmt.For _ _ _ _ _) _) _ _ _)); first | (k_unfold; (try dsimp only)) | ((with_reducible refine hqk _ _ ?_); (try dsimp only)) | (walk1 <;> (try dsimp only)) | (dsimp only; walk1) | (leave1; walk_say "STEP leave1"; try dsimp only) | fail "no step")
  exact hret _ _ _ (by k_asm) (by k_asm)
theorem pop1_spc {w : World} {mean : ExcName → Option Value} {mg mb : Str → Option Value} {news : List (Addr × Obj)} {H x : Addr} {n : Nat} (hH : ∀ p ∈ news, p.1 ≠ H) :
    Spc w mean mg mb 39 6 ((H, listOf [Value.ref x].toArray n) :: news) [.ref H] (RetHL H news [] (.ref x)) := by
  dsimp only [Spc, RetHL]
  k_fill
  intros; rename_i hret
  refine wpAny_call ?_
  k_dflt (refine' code_def (binds := [(Str.ofString "heap", .ref H)]) ?k1 ?k2 ?k3 ?k4 ?k5 ?kA ?kF ?kK ?k6 ?k7 ?k8 ?k9 ?kB ?_ ?c2 ?c3 ?c4 ?c5; (case kA => exact rfl); (case kF => exact rfl); (case kK => assumption); (case k1 => k_asm); (case k2 => k_asm); (case k3 => k_asm); (case k4 => k_asm); (case k5 => k_asm); (case k6 => k_is); (case k7 => k_is); (case k8 => first | exact Nat.le_of_ble_eq_true rfl | ktr_room); (case k9 => exact BindsTo.of_eq rfl); (case c5 => decide); (case kB => exact locs rfl); (case c2 => exact rfl); (case c3 => exact rfl); (case c4 => exact rfl); k_whole; intro g' L' h' FG' F' N' B' X' T'; (try dsimp only); (try k_lift B'); (try k_fold))
  repeat' ((fail_if_success (with_reducible show LCg.CompSrc _ _ _ _ _ _ _ _ _ _ _ _ _ _)); (fail_if_success (with_reducible show LCg.CompEnd _ _ _ _ _ _ _ _ _ _ _ _ _ _)); (fail_if_success (with_reducible show InvPostR _ _ _ _ _ _ _ _)); (fail_if_success (with_reducible show Mid0 _ _ _ _ _ _)); (fail_if_success (with_reducible show WhileStep2 _ _ _ _ _ _ _ _)); (fail_if_success (with_reducible show InvPostN _ _ _ _ _ _ _ _ _)); (fail_if_success (with_reducible show wpAny _ _ (exec (Stmt.While _ _ _ _) _) _ _ _)); (fail_if_success (with_reducible show wpAny _ _ (exec (Stmt.For _ _ _ _ _) _) _ _ _)); first | (k_unfold; (try dsimp only)) | ((with_reducible refine hqk _ _ ?_); (try dsimp only)) | (walk1 <;> (try dsimp only)) | (dsimp only; walk1) | (leave1; walk_say "STEP leave1"; try dsimp only) | fail "no step")
  exact hret _ _ _ (by k_asm) (by k_asm)
theorem hfy2_spc {w : World} {mean : ExcName → Option Value} {mg mb : Str → Option Value} {news : List (Addr × Obj)} {H x y : Addr} {n nx ny : Nat} {a k p b j q : Int} {ta tk tp tb tj tq : Tok} (hx : (x, tup3 a ta k tk p tp nx) ∈ news) (hy : (y, tup3 b tb j tj q tq ny) ∈ news) (hH : ∀ p ∈ news, p.1 ≠ H) (hkj : k ≠ j) :
    Spc w mean mg mb 53 6 ((H, listOf [Value.ref x, Value.ref y].toArray n) :: news) [.ref H]
      (RetHL H news (if lt2 a k b j = true then [Value.ref x, Value.ref y] else [Value.ref y, Value.ref x]) .none) := by
  dsimp only [Spc, RetHL]
  k_fill
  intros; rename_i hret
  refine wpAny_call ?_
  k_dflt (refine' code_def (binds := [(Str.ofString "x", .ref H)]) ?k1 ?k2 ?k3 ?k4 ?k5 ?kA ?kF ?kK ?k6 ?k7 ?k8 ?k9 ?kB ?_ ?c2 ?c3 ?c4 ?c5; (case kA => exact rfl); (case kF => exact rfl); (case kK => assumption); (case k1 => k_asm); (case k2 => k_asm); (case k3 => k_asm); (case k4 => k_asm); (case k5 => k_asm); (case k6 => k_is); (case k7 => k_is); (case k8 => first | exact Nat.le_of_ble_eq_true rfl | ktr_room); (case k9 => exact BindsTo.of_eq rfl); (case c5 => decide); (case kB => exact locs rfl); (case c2 => exact rfl); (case c3 => exact rfl); (case c4 => exact rfl); k_whole; intro g' L' h' FG' F' N' B' X' T'; (try dsimp only); (try k_lift B'); (try k_fold))
  repeat' ((fail_if_success (with_reducible show LCg.CompSrc _ _ _ _ _ _ _ _ _ _ _ _ _ _)); (fail_if_success (with_reducible show LCg.CompEnd _ _ _ _ _ _ _ _ _ _ _ _ _ _)); (fail_if_success (with_reducible show InvPostR _ _ _ _ _ _ _ _)); (fail_if_success (with_reducible show Mid0 _ _ _ _ _ _)); (fail_if_success (with_reducible show WhileStep2 _ _ _ _ _ _ _ _)); (fail_if_success (with_reducible show InvPostN _ _ _ _ _ _ _ _ _)); (fail_if_success (with_reducible show wpAny _ _ (exec (Stmt.While _ _ _ _) _) _ _ _)); (fail_if_success (with_reducible show wpAny _ _ (exec (Stmt.For _ _ _ _ _) _) _ _ _)); first | (k_unfold; (try dsimp only)) | ((with_reducible refine hqk _ _ ?_); (try dsimp only)) | (walk1 <;> (try dsimp only)) | (dsimp only; walk1) | (leave1; walk_say "STEP leave1"; try dsimp only) | fail "no step")
  (rename Fr _ _ _ _ => F1); (rename News _ _ _ _ => N1)
  (with_unfolding_all refine' For_invVF F1 ?fk1 ?fk2 ?_; (case fk1 => exact rfl); (case fk2 => exact rfl))
  repeat' ((fail_if_success (with_reducible show wpAny _ _ (pyIter _) _ _ _)); (fail_if_success (with_reducible show LCg.CompSrc _ _ _ _ _ _ _ _ _ _ _ _ _ _)); (fail_if_success (with_reducible show LCg.CompEnd _ _ _ _ _ _ _ _ _ _ _ _ _ _)); (fail_if_success (with_reducible show InvPostR _ _ _ _ _ _ _ _)); (fail_if_success (with_reducible show Mid0 _ _ _ _ _ _)); (fail_if_success (with_reducible show WhileStep2 _ _ _ _ _ _ _ _)); (fail_if_success (with_reducible show InvPostN _ _ _ _ _ _ _ _ _)); (fail_if_success (with_reducible show wpAny _ _ (exec (Stmt.While _ _ _ _) _) _ _ _)); (fail_if_success (with_reducible show wpAny _ _ (exec (Stmt.For _ _ _ _ _) _) _ _ _)); first | (k_unfold; (try dsimp only)) | ((with_reducible refine hqk _ _ ?_); (try dsimp only)) | (walk1 <;> (try dsimp only)) | (dsimp only; walk1) | (leave1; walk_say "STEP leave1"; try dsimp only) | fail "no step")
  (try clear F1); (try clear N1)
  (rename Fr _ _ _ _ => F1); (rename News _ _ _ _ => N1)
  rename IsRange _ _ _ _ _ _ _ _ => iR
  refine' for_rev1 (fun m nx => ∃ n', nx = (H, listOf (if lt2 a k b j = true then [Value.ref x, Value.ref y] else [Value.ref y, Value.ref x]).toArray n') :: news) rfl iR rfl F1 N1 ?tuA ?doA
  case doA =>
    clear F1 N1
    rintro m1 nx h tk ⟨n', rfl⟩ F1 N1
    dsimp only
    repeat' ((fail_if_success (with_reducible show LCg.CompSrc _ _ _ _ _ _ _ _ _ _ _ _ _ _)); (fail_if_success (with_reducible show LCg.CompEnd _ _ _ _ _ _ _ _ _ _ _ _ _ _)); (fail_if_success (with_reducible show InvPostR _ _ _ _ _ _ _ _)); (fail_if_success (with_reducible show Mid0 _ _ _ _ _ _)); (fail_if_success (with_reducible show WhileStep2 _ _ _ _ _ _ _ _)); (fail_if_success (with_reducible show InvPostN _ _ _ _ _ _ _ _ _)); (fail_if_success (with_reducible show wpAny _ _ (exec (Stmt.While _ _ _ _) _) _ _ _)); (fail_if_success (with_reducible show wpAny _ _ (exec (Stmt.For _ _ _ _ _) _) _ _ _)); first | (k_unfold; (try dsimp only)) | ((with_reducible refine hqk _ _ ?_); (try dsimp only)) | (walk1 <;> (try dsimp only)) | (dsimp only; walk1) | (leave1; walk_say "STEP leave1"; try dsimp only) | fail "no step")
    exact hret _ _ _ (by k_asm) (by k_asm)
  clear F1 N1
  intro t h tk own ho F2 N2
  have hH2 : ∀ p ∈ news ++ own, p.1 ≠ H := by
    intro p hp
    rcases List.mem_append.mp hp with hp | hp
    · exact hH p hp
    · exact ho p hp H (List.Mem.head _)
  have hx2 := List.mem_append_left own hx
  have hy2 := List.mem_append_left own hy
  simp only [List.cons_append] at N2
  have F2 : Fr g' L' h _ := F2
  have N2 : News g' L' h _ := N2
  repeat' ((fail_if_success (with_reducible show wpAny _ _ (call (Value.ref _) _) _ _ _)); (fail_if_success (with_reducible show LCg.CompSrc _ _ _ _ _ _ _ _ _ _ _ _ _ _)); (fail_if_success (with_reducible show LCg.CompEnd _ _ _ _ _ _ _ _ _ _ _ _ _ _)); (fail_if_success (with_reducible show InvPostR _ _ _ _ _ _ _ _)); (fail_if_success (with_reducible show Mid0 _ _ _ _ _ _)); (fail_if_success (with_reducible show WhileStep2 _ _ _ _ _ _ _ _)); (fail_if_success (with_reducible show InvPostN _ _ _ _ _ _ _ _ _)); (fail_if_success (with_reducible show wpAny _ _ (exec (Stmt.While _ _ _ _) _) _ _ _)); (fail_if_success (with_reducible show wpAny _ _ (exec (Stmt.For _ _ _ _ _) _) _ _ _)); first | (k_unfold; (try dsimp only)) | ((with_reducible refine hqk _ _ ?_); (try dsimp only)) | (walk1 <;> (try dsimp only)) | (dsimp only; walk1) | (leave1; walk_say "STEP leave1"; try dsimp only) | fail "no step")
  refine' spc_use (up2_spc ?a1hfy2 ?a2hfy2 ?a3hfy2 ?a4hfy2) ?k1 ?k2 ?k3 ?k4 ?k5 ?k6 ?k7 ?k8 ?_
  (case k1 | k2 | k3 | k4 | k5 => k_asm); (case k6 => first | exact rfl | assumption); (case k7 => ktr_room); (case k8 => ktr_units)
  (case a1hfy2 | a2hfy2 | a3hfy2 => assumption)
  (case a4hfy2 => first | assumption | exact Ne.symm (by assumption))
  dsimp only [RetHL]
  intro tS hS kS FS NS
  repeat' ((fail_if_success (with_reducible show LCg.CompSrc _ _ _ _ _ _ _ _ _ _ _ _ _ _)); (fail_if_success (with_reducible show LCg.CompEnd _ _ _ _ _ _ _ _ _ _ _ _ _ _)); (fail_if_success (with_reducible show InvPostR _ _ _ _ _ _ _ _)); (fail_if_success (with_reducible show Mid0 _ _ _ _ _ _)); (fail_if_success (with_reducible show WhileStep2 _ _ _ _ _ _ _ _)); (fail_if_success (with_reducible show InvPostN _ _ _ _ _ _ _ _ _)); (fail_if_success (with_reducible show wpAny _ _ (exec (Stmt.While _ _ _ _) _) _ _ _)); (fail_if_success (with_reducible show wpAny _ _ (exec (Stmt.For _ _ _ _ _) _) _ _ _)); first | (k_unfold; (try dsimp only)) | ((with_reducible refine hqk _ _ ?_); (try dsimp only)) | (walk1 <;> (try dsimp only)) | (dsimp only; walk1) | (leave1; walk_say "STEP leave1"; try dsimp only) | fail "no step")
  (rename Fr _ _ _ _ => F1); (rename News _ _ _ _ => N1)
  refine InvEndN.intro (nx := (H, _) :: news) F1 N1 ⟨tS, rfl⟩ rfl ?_ fun p hp => List.Mem.tail _ (List.mem_append_right _ hp)
  intro p hp
  rcases List.mem_cons.mp hp with rfl | hp
  · exact List.Mem.head _
  · exact List.Mem.tail _ (List.mem_append_left _ hp)
end Mine
end

local macro_rules | `(tactic| walk_at "zz") => `(tactic| fail "no such key")
local macro_rules | `(tactic| walk_at "zz") => `(tactic| fail "no such key")

local macro_rules | `(tactic| walk_at "subscriptTail") => `(tactic| ((with_reducible show wpAny _ _ (subscriptTail _ _ (Value.ref _) (Value.int _ _)) _ _ _); k_dflt (first
  | (refine' item_intsK ?q1 ?q2 ?q3 ?q4 ?q5 ?q6 (fun t' => ?_) ?q7; (case q1 => k_asm); (case q2 => k_mem); (case q3 => assumption); (case q4 | q5 | q6 => first | decide | omega | (simp only [List.length_cons, List.length_nil]; omega)); (case q7 => with_unfolding_all rfl))
  | (refine' item_litK (News.isList ?q1 ?q2) ?q4 ?q5 ?q6 ?_ ?q7; (case q1 => k_asm); (case q2 => k_mem); (case q4 | q5 => first | decide | omega); (case q6 => first | rfl | assumption); (case q7 => with_unfolding_all rfl)))))
section
theorem Mine.offS7 : True := by
  w_top off
  trivial
open PySem PySem.W PyProof.Rows
set_option Elab.async false
set_option maxRecDepth 100000
set_option maxHeartbeats 8000000
namespace Mine
noncomputable def rem : List (Nat × Nat) → Nat
  | [] => 0
  | (_, p) :: r => (3 - p) + rem r
noncomputable def dstep (f : Nat → Nat → Int) : List (Nat × Nat) → List (Nat × Nat)
  | [] => []
  | [(k, p)] => if p + 1 < 3 then [(k, p + 1)] else []
  | (k, p) :: (j, q) :: _ => if p + 1 < 3 then (if lt2 (f k (p + 1)) k (f j q) j = true then [(k, p + 1), (j, q)] else [(j, q), (k, p + 1)]) else [(j, q)]
noncomputable def drun (f : Nat → Nat → Int) : Nat → List (Nat × Nat) → List Int → List Int
  | 0, _, ss => ss
  | _ + 1, [], ss => ss
  | n + 1, (k, p) :: r, ss => drun f n (dstep f ((k, p) :: r)) (ss ++ [lastD ss + f k p])
noncomputable def fOf (a0 a1 a2 b0 b1 b2 : Int) (k p : Nat) : Int := if k = 0 then [a0, a1, a2].getD p 0 else [b0, b1, b2].getD p 0
theorem fOf0 {a0 a1 a2 b0 b1 b2 : Int} {p : Nat} : fOf a0 a1 a2 b0 b1 b2 0 (p + 1) = [a0, a1, a2].getD ((p : Int) + 1).toNat 0 := rfl
theorem fOf1 {a0 a1 a2 b0 b1 b2 : Int} {p : Nat} : fOf a0 a1 a2 b0 b1 b2 1 (p + 1) = [b0, b1, b2].getD ((p : Int) + 1).toNat 0 := rfl
theorem castS {p : Nat} : ((p + 1 : Nat) : Int) = (p : Int) + 1 := rfl
noncomputable def dealt (a0 a1 a2 b0 b1 b2 spent : Int) : List Int :=
  drun (fOf a0 a1 a2 b0 b1 b2) 6 (if lt2 a0 0 b0 1 = true then [(0, 0), (1, 0)] else [(1, 0), (0, 0)]) [spent]
inductive HSh (f : Nat → Nat → Int) (H SM : Addr) (so : Obj) (C : List (Addr × Obj)) : List (Nat × Nat) → List (Addr × Obj) → Prop
  | none (n : Nat) : HSh f H SM so C [] ((H, listOf ([] : List Value).toArray n) :: (SM, so) :: C)
  | one (k p : Nat) (x : Addr) (n nx : Nat) (t1 t2 t3 : Tok) : k < 2 → p < 3 → x ≠ H → x ≠ SM → HSh f H SM so C [(k, p)] ((H, listOf [Value.ref x].toArray n) :: (SM, so) :: (x, tup3 (f k p) t1 k t2 p t3 nx) :: C)
  | two (k p j q : Nat) (x y : Addr) (n nx ny : Nat) (t1 t2 t3 u1 u2 u3 : Tok) : k < 2 → j < 2 → k ≠ j → p < 3 → q < 3 → x ≠ H → x ≠ SM → y ≠ H → y ≠ SM →
      HSh f H SM so C [(k, p), (j, q)] ((H, listOf [Value.ref x, Value.ref y].toArray n) :: (SM, so) :: (x, tup3 (f k p) t1 k t2 p t3 nx) :: (y, tup3 (f j q) u1 j u2 q u3 ny) :: C)
theorem r1 {p a : Nat} (h : p + 1 < 3) : (3 - (p + 1)) + a + 1 = (3 - p) + a := by omega
theorem r0 {p a : Nat} (hp : p < 3) (h : ¬ p + 1 < 3) : a + 1 = (3 - p) + a := by omega
theorem r2 {p q : Nat} (h : p + 1 < 3) : (3 - q) + ((3 - (p + 1)) + 0) + 1 = (3 - p) + ((3 - q) + 0) := by omega
theorem rem_dstep (f : Nat → Nat → Int) {k p : Nat} (hp : p < 3) : ∀ {r : List (Nat × Nat)}, r.length ≤ 1 → rem (dstep f ((k, p) :: r)) + 1 = rem ((k, p) :: r)
  | [], _ => by
    by_cases h : p + 1 < 3
    · rw [dstep, if_pos h]; exact r1 h
    · rw [dstep, if_neg h]; exact r0 hp h
  | [(j, q)], _ => by
    by_cases h : p + 1 < 3
    · rw [dstep, if_pos h]
      by_cases h2 : lt2 (f k (p + 1)) k (f j q) j = true
      · rw [if_pos h2]; exact r1 h
      · rw [if_neg h2]; exact r2 h
    · rw [dstep, if_neg h]; exact r0 hp h
  | _ :: _ :: r, h => absurd h (by simp)
theorem len7 {ss : List Int} {x : Int} {r r' : Nat} (h : r' + 1 = r) (hl : ss.length + r = 7) : (ss ++ [x]).length + r' = 7 := by
  rw [List.length_append, List.length_singleton, Nat.add_assoc, Nat.add_comm 1, h, hl]
theorem l1one {a p : Nat} (hp : p < 3) (h : a + ((3 - p) + 0) = 7) : 1 ≤ a ∧ a ≤ 7 := by omega
theorem l1two {a p q : Nat} (hp : p < 3) (hq : q < 3) (h : a + ((3 - p) + ((3 - q) + 0)) = 7) : 1 ≤ a ∧ a ≤ 7 := by omega
theorem drun_dstep {f : Nat → Nat → Int} {k p : Nat} {ss R : List Int} {r : List (Nat × Nat)} (hp : p < 3) (hl : r.length ≤ 1) (hR : drun f (rem ((k, p) :: r)) ((k, p) :: r) ss = R) :
    drun f (rem (dstep f ((k, p) :: r))) (dstep f ((k, p) :: r)) (ss ++ [lastD ss + f k p]) = R := by
  rw [← rem_dstep f hp hl] at hR
  exact hR
theorem nw_a {g h : Heap} {L : Addr} {a b c d : Addr × Obj} {l : List (Addr × Obj)} (N : News g L h (a :: b :: c :: d :: l)) : News g L h (d :: a :: l) := fun p hp => N p (by
  simp only [List.mem_cons] at hp ⊢
  rcases hp with h | h | h
  · exact .inr (.inr (.inr (.inl h)))
  · exact .inl h
  · exact .inr (.inr (.inr (.inr h))))
theorem nw_b {g h : Heap} {L : Addr} {b c : Addr × Obj} {l : List (Addr × Obj)} (N : News g L h (b :: c :: l)) : News g L h l := fun p hp => N p (.tail _ (.tail _ hp))
theorem ne_cons {H : Addr} {p : Addr × Obj} {l : List (Addr × Obj)} (h : p.1 ≠ H) (hl : ∀ r ∈ l, r.1 ≠ H) : ∀ r ∈ p :: l, r.1 ≠ H := List.forall_mem_cons.2 ⟨h, hl⟩
theorem sh_two2 {g h : Heap} {L H SM D x y : Addr} {so ox : Obj} {C : List (Addr × Obj)} {f : Nat → Nat → Int} {k p j q n ny : Nat} {t1 t2 t3 u1 u2 u3 : Tok} (hp : p + 1 < 3) (hk : k < 2) (hj : j < 2) (hkj : k ≠ j) (hq : q < 3) (h1 : D ≠ H) (h2 : D ≠ SM) (h3 : y ≠ H) (h4 : y ≠ SM)
    (N : News g L h ((H, listOf (if lt2 (f k (p + 1)) k (f j q) j = true then [Value.ref D, Value.ref y] else [Value.ref y, Value.ref D]).toArray n) :: (D, tup3 (f k (p + 1)) t1 k t2 (p + 1 : Nat) t3 0) :: (SM, so) :: (x, ox) :: (y, tup3 (f j q) u1 j u2 q u3 ny) :: C)) :
    ∃ nx, News g L h nx ∧ HSh f H SM so C (dstep f [(k, p), (j, q)]) nx := by
  simp only [dstep]
  rw [if_pos hp]
  cases e : lt2 (f k (p + 1)) k (f j q) j with
  | true =>
    rw [e, if_pos rfl] at N
    rw [if_pos rfl]
    refine ⟨_, ?_, HSh.two k (p + 1) j q D y n 0 ny t1 t2 t3 u1 u2 u3 hk hj hkj hp hq h1 h2 h3 h4⟩
    intro r hr; refine N r ?_
    simp only [List.mem_cons] at hr ⊢
    rcases hr with h | h | h | h | h
    · exact .inl h
    · exact .inr (.inr (.inl h))
    · exact .inr (.inl h)
    · exact .inr (.inr (.inr (.inr (.inl h))))
    · exact .inr (.inr (.inr (.inr (.inr h))))
  | false =>
    rw [e, if_neg Bool.false_ne_true] at N
    rw [if_neg Bool.false_ne_true]
    refine ⟨_, ?_, HSh.two j q k (p + 1) y D n ny 0 u1 u2 u3 t1 t2 t3 hj hk hkj.symm hq hp h3 h4 h1 h2⟩
    intro r hr; refine N r ?_
    simp only [List.mem_cons] at hr ⊢
    rcases hr with h | h | h | h | h
    · exact .inl h
    · exact .inr (.inr (.inl h))
    · exact .inr (.inr (.inr (.inr (.inl h))))
    · exact .inr (.inl h)
    · exact .inr (.inr (.inr (.inr (.inr h))))
theorem sh_two1 {g h : Heap} {L H SM x y : Addr} {so ox : Obj} {C : List (Addr × Obj)} {f : Nat → Nat → Int} {k p j q n ny : Nat} {u1 u2 u3 : Tok} (hp : ¬ p + 1 < 3) (hj : j < 2) (hq : q < 3) (h3 : y ≠ H) (h4 : y ≠ SM)
    (N : News g L h ((H, listOf [Value.ref y].toArray n) :: (SM, so) :: (x, ox) :: (y, tup3 (f j q) u1 j u2 q u3 ny) :: C)) :
    ∃ nx, News g L h nx ∧ HSh f H SM so C (dstep f [(k, p), (j, q)]) nx := by
  simp only [dstep]
  rw [if_neg hp]
  refine ⟨_, ?_, HSh.one j q y n ny u1 u2 u3 hj hq h3 h4⟩
  intro r hr; refine N r ?_
  simp only [List.mem_cons] at hr ⊢
  rcases hr with h | h | h | h
  · exact .inl h
  · exact .inr (.inl h)
  · exact .inr (.inr (.inr (.inl h)))
  · exact .inr (.inr (.inr (.inr h)))
theorem sh_one1 {g h : Heap} {L H SM D x : Addr} {so ox : Obj} {C : List (Addr × Obj)} {f : Nat → Nat → Int} {k p n : Nat} {t1 t2 t3 : Tok} (hp : p + 1 < 3) (hk : k < 2) (h1 : D ≠ H) (h2 : D ≠ SM)
    (N : News g L h ((H, listOf [Value.ref D].toArray n) :: (D, tup3 (f k (p + 1)) t1 k t2 (p + 1 : Nat) t3 0) :: (SM, so) :: (x, ox) :: C)) :
    ∃ nx, News g L h nx ∧ HSh f H SM so C (dstep f [(k, p)]) nx := by
  simp only [dstep]
  rw [if_pos hp]
  refine ⟨_, ?_, HSh.one k (p + 1) D n 0 t1 t2 t3 hk hp h1 h2⟩
  intro r hr; refine N r ?_
  simp only [List.mem_cons] at hr ⊢
  rcases hr with h | h | h | h
  · exact .inl h
  · exact .inr (.inr (.inl h))
  · exact .inr (.inl h)
  · exact .inr (.inr (.inr (.inr h)))
theorem sh_one0 {g h : Heap} {L H SM x : Addr} {so ox : Obj} {C : List (Addr × Obj)} {f : Nat → Nat → Int} {k p n : Nat} (hp : ¬ p + 1 < 3)
    (N : News g L h ((H, listOf ([] : List Value).toArray n) :: (SM, so) :: (x, ox) :: C)) :
    ∃ nx, News g L h nx ∧ HSh f H SM so C (dstep f [(k, p)]) nx := by
  simp only [dstep]
  rw [if_neg hp]
  refine ⟨_, ?_, HSh.none n⟩
  intro r hr; refine N r ?_
  simp only [List.mem_cons] at hr ⊢
  rcases hr with h | h | h
  · exact .inl h
  · exact .inr (.inl h)
  · exact .inr (.inr (.inr h))
section
variable {prog : Program} {w : World} {A : Around} {E : Value → Shared → Prop} {s : Shared}
theorem ne_one {H Z : Addr} {v : Value} {vs : List Value} {n n2 : Nat} {Q : Value → Shared → Prop} {h₀ : Heap} {L : Addr} {news : List (Addr × Obj)} (N : News h₀ L s.heap news) (hu : A.units < cLine) (hm : (H, listOf (v :: vs).toArray n) ∈ news) (hz : (Z, listOf ([] : List Value).toArray n2) ∈ news) (h : Q (.bool true) s) :
    wpAny (model prog w) A (compareOp .NotEq (.ref H) (.ref Z)) Q E s :=
  cmp_ofNotEq (PySem.SeqAt.RcNeAt.lists_lengths (News.isList N hm) (News.isList N hz) (by simp) hu prog w E Q h)
theorem ne_nil {H Z : Addr} {n n2 : Nat} {Q : Value → Shared → Prop} {h₀ : Heap} {L : Addr} {news : List (Addr × Obj)} (N : News h₀ L s.heap news) (hu : A.units < cLine) (hm : (H, listOf ([] : List Value).toArray n) ∈ news) (hz : (Z, listOf ([] : List Value).toArray n2) ∈ news) (h : Q (.bool false) s) :
    wpAny (model prog w) A (compareOp .NotEq (.ref H) (.ref Z)) Q E s :=
  cmp_ofNotEq (PySem.SeqAt.RcNeAt.lists (e := fun _ => true) (News.isList N hm) (News.isList N hz) rfl hu (fun j h1 h2 => absurd h1 (by simp)) prog w E Q h)
theorem ne_tup {x : Addr} {a k p : Int} {ta tk tp : Tok} {nx : Nat} {Q : Value → Shared → Prop} {h₀ : Heap} {L : Addr} {news : List (Addr × Obj)} (N : News h₀ L s.heap news) (hu : A.units < cLine) (hm : (x, tup3 a ta k tk p tp nx) ∈ news) (h : Q (.bool false) s) :
    wpAny (model prog w) A (compareOp .NotEq (.ref x) (.ref x)) Q E s := by
  have ht : s.heap.IsTuple x #[.int a ta, .int k tk, .int p tp] := ⟨_, News.get N hm, rfl, _, rfl⟩
  refine cmp_ofNotEq (PySem.SeqAt.RcNeAt.tuples (e := fun _ => true) ht ht hu ?_ prog w E Q h)
  intro j h1 h2
  match j, h1, h2 with
  | 0, _, _ => have := PySem.SeqAt.EqAt.int_int (A := A.in1) (s := s) a ta a ta; rwa [beq_self_eq_true] at this
  | 1, _, _ => have := PySem.SeqAt.EqAt.int_int (A := A.in1) (s := s) k tk k tk; rwa [beq_self_eq_true] at this
  | 2, _, _ => have := PySem.SeqAt.EqAt.int_int (A := A.in1) (s := s) p tp p tp; rwa [beq_self_eq_true] at this
  | n + 3, h1, _ => exact absurd h1 (by simp)
end
local macro_rules | `(tactic| walk_at "compareOp NotEq ref") => `(tactic| ((with_reducible show wpAny _ _ (compareOp CmpOp.NotEq (Value.ref _) (Value.ref _)) _ _ _); k_dflt (first
  | (refine' ne_tup ?t1 ?t2 ?t3 ?_; (case t1 => k_asm); (case t2 => first | ktr_units | k_units); (case t3 => k_mem))
  | (refine' ne_one ?t1 ?t2 ?t3 ?t4 ?_; (case t1 => k_asm); (case t2 => first | ktr_units | k_units); (case t3 => k_mem); (case t4 => k_mem))
  | (refine' ne_nil ?t1 ?t2 ?t3 ?t4 ?_; (case t1 => k_asm); (case t2 => first | ktr_units | k_units); (case t3 => k_mem); (case t4 => k_mem)))))
theorem sel {a0 a1 a2 b0 b1 b2 : Int} {A0 A1 : Addr} {c0 c1 : Nat} {ta0 ta1 ta2 tb0 tb1 tb2 : Tok} {news : List (Addr × Obj)} (h0 : (A0, listOf [Value.int a0 ta0, Value.int a1 ta1, Value.int a2 ta2].toArray c0) ∈ news) (h1 : (A1, listOf [Value.int b0 tb0, Value.int b1 tb1, Value.int b2 tb2].toArray c1) ∈ news) :
    ∀ {k : Nat}, k < 2 → ∃ (Ak : Addr) (ck : Nat) (e0 e1 e2 : Tok), (Ak, listOf [Value.int (fOf a0 a1 a2 b0 b1 b2 k 0) e0, Value.int (fOf a0 a1 a2 b0 b1 b2 k 1) e1, Value.int (fOf a0 a1 a2 b0 b1 b2 k 2) e2].toArray ck) ∈ news ∧ [Value.ref A0, Value.ref A1][((k : Nat) : Int).toNat]? = some (.ref Ak)
  | 0, _ => ⟨A0, c0, ta0, ta1, ta2, h0, rfl⟩
  | 1, _ => ⟨A1, c1, tb0, tb1, tb2, h1, rfl⟩
theorem fOfg {f : Nat → Int} : ∀ {p : Nat}, p + 1 < 3 → [f 0, f 1, f 2].getD ((p : Int) + 1).toNat 0 = f (p + 1)
  | 0, _ => rfl
  | 1, _ => rfl
noncomputable def deal_in : { PRED : World → (ExcName → Option Value) → (Str → Option Value) → (Str → Option Value) → (List (Addr × Obj)) → Addr → Addr → Addr → Nat → Nat → Nat → Int → Int → Int → Int → Int → Int → Int → Tok → Tok → Tok → Tok → Tok → Tok → Tok → Nat → Nat → (Option (List Code)) → Str → Scope → Addr → Value → (List (Str × Addr)) → (List Env) → Around → Heap → Heap → Addr → (Str → Option Value) → Shared → (Value → Shared → Prop) → (Value → Shared → Prop) → Heap → Addr → Heap → Nat → Obj → (Flow → Shared → Prop) → (Value → Shared → Prop) → Prop // (∀ (w : World) (mean : ExcName → Option Value) (mg : Str → Option Value) (mb : Str → Option Value) (news : List (Addr × Obj)) (SL : Addr) (A0 : Addr) (A1 : Addr) (ns : Nat) (c0 : Nat) (c1 : Nat) (a0 : Int) (a1 : Int) (a2 : Int) (b0 : Int) (b1 : Int) (b2 : Int) (spent : Int) (ta0 : Tok) (ta1 : Tok) (ta2 : Tok) (tb0 : Tok) (tb1 : Tok) (tb2 : Tok) (ts : Tok) (dpt : Nat) (unt : Nat) (gd : Option (List Code)) (cn : Str) (cs : Scope) (xa : Addr) (ccd : Value) (cl : List (Str × Addr)) (outerE : List Env) (A₀ : Around) (base : Heap) (h₀ : Heap) (L : Addr) (m : Str → Option Value) (s : Shared) (Q : Value → Shared → Prop) (E : Value → Shared → Prop) (g' : Heap) (L' : Addr) (h' : Heap) (tk' : Nat) (o1 : Obj) (qk : Flow → Shared → Prop) (ek : Value → Shared → Prop), PRED w mean mg mb news SL A0 A1 ns c0 c1 a0 a1 a2 b0 b1 b2 spent ta0 ta1 ta2 tb0 tb1 tb2 ts dpt unt gd cn cs xa ccd cl outerE A₀ base h₀ L m s Q E g' L' h' tk' o1 qk ek) → ∀ (w : World) (mean : ExcName → Option Value) (mg mb : Str → Option Value) (news : List (Addr × Obj)) (SL A0 A1 : Addr) (ns c0 c1 : Nat) (a0 a1 a2 b0 b1 b2 spent : Int) (ta0 ta1 ta2 tb0 tb1 tb2 ts : Tok), (SL, listOf [Value.ref A0, Value.ref A1].toArray ns) ∈ news → (A0, listOf [Value.int a0 ta0, Value.int a1 ta1, Value.int a2 ta2].toArray c0) ∈ news → (A1, listOf [Value.int b0 tb0, Value.int b1 tb1, Value.int b2 tb2].toArray c1) ∈ news →
    Spc w mean mg mb 96 8 news [.ref SL, .int spent ts] (RetL news (dealt a0 a1 a2 b0 b1 b2 spent)) } :=
  ⟨_, fun HYP => by
  intro w mean mg mb news SL A0 A1 ns c0 c1 a0 a1 a2 b0 b1 b2 spent ta0 ta1 ta2 tb0 tb1 tb2 ts hS h0 h1
  dsimp only [Spc, RetL]
  k_fill
  intro dpt unt gd cn cs xa ccd cl outerE A₀ base h₀ L m s Q E hBel hFr hIn hNw hTop hcs hdp hun hret
  have i0 : IntsAre [Value.int a0 ta0, Value.int a1 ta1, Value.int a2 ta2] [a0, a1, a2] := .cons _ _ (.cons _ _ (.cons _ _ .nil))
  have i1 : IntsAre [Value.int b0 tb0, Value.int b1 tb1, Value.int b2 tb2] [b0, b1, b2] := .cons _ _ (.cons _ _ (.cons _ _ .nil))
  refine wpAny_call ?_
  k_dflt (refine' code_defC (binds := [(Str.ofString "steps", .ref SL), (Str.ofString "spent", .int spent ts)]) ?k1 ?k2 ?k3 ?k4 ?k5 ?kA ?kF ?kK ?k6 ?k7 ?k8 ?k9 ?kB ?kD ?_ ?c2 ?c3 ?c4; (case kA => exact rfl); (case kF => exact rfl); (case kK => assumption); (case k1 => k_asm); (case k2 => k_asm); (case k3 => k_asm); (case k4 => k_asm); (case k5 => k_asm); (case k6 => k_is); (case k7 => k_is); (case k8 => first | exact Nat.le_of_ble_eq_true rfl | ktr_room); (case k9 => exact BindsTo.of_eq rfl); (case kB => exact rfl); (case kD => decide +kernel); (case c2 => exact rfl); (case c3 => exact rfl); (case c4 => exact rfl); k_whole; intro g' L' h' tk' cells' FG' F' N' Y' B' X' T' l1; (try k_lt l1); k_cells Y'; (try simp only [List.cons_append, List.nil_append] at N'); (try dsimp only); (try k_lift B'))
  rename_i o1 d1
  have F0 : Fr g' L' h' (fun y => if y = Str.ofString "spent" then some (.int spent ts) else none) := by with_unfolding_all exact F'
  replace d1 : o1.data = .cell (some (.ref SL)) := by with_unfolding_all exact d1
  clear F'
  refine cut_qe (by passes_own) ?_
  intro qk ek hqk hek
  (try dsimp only at hqk)
  clear hcs hFr hNw
  revert hek; revert hqk; revert d1; revert F0; revert N'; revert l1; revert T'; revert X'; revert B'; revert FG'; revert i1; revert i0; revert hret; revert hun; revert hdp; revert hTop; revert hIn; revert hBel; revert h1; revert h0; revert hS
  revert ek; revert qk; revert o1; revert tk'; revert h'; revert L'; revert g'; revert E; revert Q; revert s; revert m; revert L; revert h₀; revert base; revert A₀; revert outerE; revert cl; revert ccd; revert xa; revert cs; revert cn; revert gd; revert unt; revert dpt; revert ts; revert tb2; revert tb1; revert tb0; revert ta2; revert ta1; revert ta0; revert spent; revert b2; revert b1; revert b0; revert a2; revert a1; revert a0; revert c1; revert c0; revert ns; revert A1; revert A0; revert SL; revert news; revert mb; revert mg; revert mean; revert w
  exact HYP⟩
noncomputable def deal_B : World × (ExcName → Option Value) × (Str → Option Value) × (Str → Option Value) × (List (Addr × Obj)) × Addr × Addr × Addr × Nat × Nat × Nat × Int × Int × Int × Int × Int × Int × Int × Tok × Tok × Tok × Tok × Tok × Tok × Tok × Nat × Nat × (Option (List Code)) × Str × Scope × Addr × Value × (List (Str × Addr)) × (List Env) × Around × Heap × Heap × Addr × (Str → Option Value) × Shared × (Value → Shared → Prop) × (Value → Shared → Prop) × Heap × Addr × Heap × Nat × Obj × (Flow → Shared → Prop) × (Value → Shared → Prop) → Prop := fun v => deal_in.1 v.1 v.2.1 v.2.2.1 v.2.2.2.1 v.2.2.2.2.1 v.2.2.2.2.2.1 v.2.2.2.2.2.2.1 v.2.2.2.2.2.2.2.1 v.2.2.2.2.2.2.2.2.1 v.2.2.2.2.2.2.2.2.2.1 v.2.2.2.2.2.2.2.2.2.2.1 v.2.2.2.2.2.2.2.2.2.2.2.1 v.2.2.2.2.2.2.2.2.2.2.2.2.1 v.2.2.2.2.2.2.2.2.2.2.2.2.2.1 v.2.2.2.2.2.2.2.2.2.2.2.2.2.2.1 v.2.2.2.2.2.2.2.2.2.2.2.2.2.2.2.1 v.2.2.2.2.2.2.2.2.2.2.2.2.2.2.2.2.1 v.2.2.2.2.2.2.2.2.2.2.2.2.2.2.2.2.2.1 v.2.2.2.2.2.2.2.2.2.2.2.2.2.2.2.2.2.2.1 v.2.2.2.2.2.2.2.2.2.2.2.2.2.2.2.2.2.2.2.1 v.2.2.2.2.2.2.2.2.2.2.2.2.2.2.2.2.2.2.2.2.1 v.2.2.2.2.2.2.2.2.2.2.2.2.2.2.2.2.2.2.2.2.2.1 v.2.2.2.2.2.2.2.2.2.2.2.2.2.2.2.2.2.2.2.2.2.2.1 v.2.2.2.2.2.2.2.2.2.2.2.2.2.2.2.2.2.2.2.2.2.2.2.1 v.2.2.2.2.2.2.2.2.2.2.2.2.2.2.2.2.2.2.2.2.2.2.2.2.1 v.2.2.2.2.2.2.2.2.2.2.2.2.2.2.2.2.2.2.2.2.2.2.2.2.2.1 v.2.2.2.2.2.2.2.2.2.2.2.2.2.2.2.2.2.2.2.2.2.2.2.2.2.2.1 v.2.2.2.2.2.2.2.2.2.2.2.2.2.2.2.2.2.2.2.2.2.2.2.2.2.2.2.1 v.2.2.2.2.2.2.2.2.2.2.2.2.2.2.2.2.2.2.2.2.2.2.2.2.2.2.2.2.1 v.2.2.2.2.2.2.2.2.2.2.2.2.2.2.2.2.2.2.2.2.2.2.2.2.2.2.2.2.2.1 v.2.2.2.2.2.2.2.2.2.2.2.2.2.2.2.2.2.2.2.2.2.2.2.2.2.2.2.2.2.2.1 v.2.2.2.2.2.2.2.2.2.2.2.2.2.2.2.2.2.2.2.2.2.2.2.2.2.2.2.2.2.2.2.1 v.2.2.2.2.2.2.2.2.2.2.2.2.2.2.2.2.2.2.2.2.2.2.2.2.2.2.2.2.2.2.2.2.1 v.2.2.2.2.2.2.2.2.2.2.2.2.2.2.2.2.2.2.2.2.2.2.2.2.2.2.2.2.2.2.2.2.2.1 v.2.2.2.2.2.2.2.2.2.2.2.2.2.2.2.2.2.2.2.2.2.2.2.2.2.2.2.2.2.2.2.2.2.2.1 v.2.2.2.2.2.2.2.2.2.2.2.2.2.2.2.2.2.2.2.2.2.2.2.2.2.2.2.2.2.2.2.2.2.2.2.1 v.2.2.2.2.2.2.2.2.2.2.2.2.2.2.2.2.2.2.2.2.2.2.2.2.2.2.2.2.2.2.2.2.2.2.2.2.1 v.2.2.2.2.2.2.2.2.2.2.2.2.2.2.2.2.2.2.2.2.2.2.2.2.2.2.2.2.2.2.2.2.2.2.2.2.2.1 v.2.2.2.2.2.2.2.2.2.2.2.2.2.2.2.2.2.2.2.2.2.2.2.2.2.2.2.2.2.2.2.2.2.2.2.2.2.2.1 v.2.2.2.2.2.2.2.2.2.2.2.2.2.2.2.2.2.2.2.2.2.2.2.2.2.2.2.2.2.2.2.2.2.2.2.2.2.2.2.1 v.2.2.2.2.2.2.2.2.2.2.2.2.2.2.2.2.2.2.2.2.2.2.2.2.2.2.2.2.2.2.2.2.2.2.2.2.2.2.2.2.1 v.2.2.2.2.2.2.2.2.2.2.2.2.2.2.2.2.2.2.2.2.2.2.2.2.2.2.2.2.2.2.2.2.2.2.2.2.2.2.2.2.2.1 v.2.2.2.2.2.2.2.2.2.2.2.2.2.2.2.2.2.2.2.2.2.2.2.2.2.2.2.2.2.2.2.2.2.2.2.2.2.2.2.2.2.2.1 v.2.2.2.2.2.2.2.2.2.2.2.2.2.2.2.2.2.2.2.2.2.2.2.2.2.2.2.2.2.2.2.2.2.2.2.2.2.2.2.2.2.2.2.1 v.2.2.2.2.2.2.2.2.2.2.2.2.2.2.2.2.2.2.2.2.2.2.2.2.2.2.2.2.2.2.2.2.2.2.2.2.2.2.2.2.2.2.2.2.1 v.2.2.2.2.2.2.2.2.2.2.2.2.2.2.2.2.2.2.2.2.2.2.2.2.2.2.2.2.2.2.2.2.2.2.2.2.2.2.2.2.2.2.2.2.2.1 v.2.2.2.2.2.2.2.2.2.2.2.2.2.2.2.2.2.2.2.2.2.2.2.2.2.2.2.2.2.2.2.2.2.2.2.2.2.2.2.2.2.2.2.2.2.2.1 v.2.2.2.2.2.2.2.2.2.2.2.2.2.2.2.2.2.2.2.2.2.2.2.2.2.2.2.2.2.2.2.2.2.2.2.2.2.2.2.2.2.2.2.2.2.2.2.1 v.2.2.2.2.2.2.2.2.2.2.2.2.2.2.2.2.2.2.2.2.2.2.2.2.2.2.2.2.2.2.2.2.2.2.2.2.2.2.2.2.2.2.2.2.2.2.2.2
noncomputable def deal_v : World × (ExcName → Option Value) × (Str → Option Value) × (Str → Option Value) × (List (Addr × Obj)) × Addr × Addr × Addr × Nat × Nat × Nat × Int × Int × Int × Int × Int × Int × Int × Tok × Tok × Tok × Tok × Tok × Tok × Tok × Nat × Nat × (Option (List Code)) × Str × Scope × Addr × Value × (List (Str × Addr)) × (List Env) × Around × Heap × Heap × Addr × (Str → Option Value) × Shared × (Value → Shared → Prop) × (Value → Shared → Prop) × Heap × Addr × Heap × Nat × Obj × (Flow → Shared → Prop) × (Value → Shared → Prop) := Classical.choose (drink ⟨(Classical.choice neWorld, default, default, default, default, default, default, default, default, default, default, default, default, default, default, default, default, default, default, default, default, default, default, default, default, default, default, default, default, default, default, default, default, default, {}, default, default, default, default, {}, default, default, default, default, default, default, default, default, default)⟩ deal_B)
theorem deal_s : deal_B deal_v → ∀ v, deal_B v := by
  with_unfolding_all exact Classical.choose_spec (drink ⟨(Classical.choice neWorld, default, default, default, default, default, default, default, default, default, default, default, default, default, default, default, default, default, default, default, default, default, default, default, default, default, default, default, default, default, default, default, default, default, {}, default, default, default, default, {}, default, default, default, default, default, default, default, default, default)⟩ deal_B)
namespace dealK
noncomputable def w : World := deal_v.1
noncomputable def mean : ExcName → Option Value := deal_v.2.1
noncomputable def mg : Str → Option Value := deal_v.2.2.1
noncomputable def mb : Str → Option Value := deal_v.2.2.2.1
noncomputable def news : List (Addr × Obj) := deal_v.2.2.2.2.1
noncomputable def SL : Addr := deal_v.2.2.2.2.2.1
noncomputable def A0 : Addr := deal_v.2.2.2.2.2.2.1
noncomputable def A1 : Addr := deal_v.2.2.2.2.2.2.2.1
noncomputable def ns : Nat := deal_v.2.2.2.2.2.2.2.2.1
noncomputable def c0 : Nat := deal_v.2.2.2.2.2.2.2.2.2.1
noncomputable def c1 : Nat := deal_v.2.2.2.2.2.2.2.2.2.2.1
noncomputable def a0 : Int := deal_v.2.2.2.2.2.2.2.2.2.2.2.1
noncomputable def a1 : Int := deal_v.2.2.2.2.2.2.2.2.2.2.2.2.1
noncomputable def a2 : Int := deal_v.2.2.2.2.2.2.2.2.2.2.2.2.2.1
noncomputable def b0 : Int := deal_v.2.2.2.2.2.2.2.2.2.2.2.2.2.2.1
noncomputable def b1 : Int := deal_v.2.2.2.2.2.2.2.2.2.2.2.2.2.2.2.1
noncomputable def b2 : Int := deal_v.2.2.2.2.2.2.2.2.2.2.2.2.2.2.2.2.1
noncomputable def spent : Int := deal_v.2.2.2.2.2.2.2.2.2.2.2.2.2.2.2.2.2.1
noncomputable def ta0 : Tok := deal_v.2.2.2.2.2.2.2.2.2.2.2.2.2.2.2.2.2.2.1
noncomputable def ta1 : Tok := deal_v.2.2.2.2.2.2.2.2.2.2.2.2.2.2.2.2.2.2.2.1
noncomputable def ta2 : Tok := deal_v.2.2.2.2.2.2.2.2.2.2.2.2.2.2.2.2.2.2.2.2.1
noncomputable def tb0 : Tok := deal_v.2.2.2.2.2.2.2.2.2.2.2.2.2.2.2.2.2.2.2.2.2.1
noncomputable def tb1 : Tok := deal_v.2.2.2.2.2.2.2.2.2.2.2.2.2.2.2.2.2.2.2.2.2.2.1
noncomputable def tb2 : Tok := deal_v.2.2.2.2.2.2.2.2.2.2.2.2.2.2.2.2.2.2.2.2.2.2.2.1
noncomputable def ts : Tok := deal_v.2.2.2.2.2.2.2.2.2.2.2.2.2.2.2.2.2.2.2.2.2.2.2.2.1
noncomputable def dpt : Nat := deal_v.2.2.2.2.2.2.2.2.2.2.2.2.2.2.2.2.2.2.2.2.2.2.2.2.2.1
noncomputable def unt : Nat := deal_v.2.2.2.2.2.2.2.2.2.2.2.2.2.2.2.2.2.2.2.2.2.2.2.2.2.2.1
noncomputable def gd : Option (List Code) := deal_v.2.2.2.2.2.2.2.2.2.2.2.2.2.2.2.2.2.2.2.2.2.2.2.2.2.2.2.1
noncomputable def cn : Str := deal_v.2.2.2.2.2.2.2.2.2.2.2.2.2.2.2.2.2.2.2.2.2.2.2.2.2.2.2.2.1
noncomputable def cs : Scope := deal_v.2.2.2.2.2.2.2.2.2.2.2.2.2.2.2.2.2.2.2.2.2.2.2.2.2.2.2.2.2.1
noncomputable def xa : Addr := deal_v.2.2.2.2.2.2.2.2.2.2.2.2.2.2.2.2.2.2.2.2.2.2.2.2.2.2.2.2.2.2.1
noncomputable def ccd : Value := deal_v.2.2.2.2.2.2.2.2.2.2.2.2.2.2.2.2.2.2.2.2.2.2.2.2.2.2.2.2.2.2.2.1
noncomputable def cl : List (Str × Addr) := deal_v.2.2.2.2.2.2.2.2.2.2.2.2.2.2.2.2.2.2.2.2.2.2.2.2.2.2.2.2.2.2.2.2.1
noncomputable def outerE : List Env := deal_v.2.2.2.2.2.2.2.2.2.2.2.2.2.2.2.2.2.2.2.2.2.2.2.2.2.2.2.2.2.2.2.2.2.1
noncomputable def A₀ : Around := deal_v.2.2.2.2.2.2.2.2.2.2.2.2.2.2.2.2.2.2.2.2.2.2.2.2.2.2.2.2.2.2.2.2.2.2.1
noncomputable def base : Heap := deal_v.2.2.2.2.2.2.2.2.2.2.2.2.2.2.2.2.2.2.2.2.2.2.2.2.2.2.2.2.2.2.2.2.2.2.2.1
noncomputable def h₀ : Heap := deal_v.2.2.2.2.2.2.2.2.2.2.2.2.2.2.2.2.2.2.2.2.2.2.2.2.2.2.2.2.2.2.2.2.2.2.2.2.1
noncomputable def L : Addr := deal_v.2.2.2.2.2.2.2.2.2.2.2.2.2.2.2.2.2.2.2.2.2.2.2.2.2.2.2.2.2.2.2.2.2.2.2.2.2.1
noncomputable def m : Str → Option Value := deal_v.2.2.2.2.2.2.2.2.2.2.2.2.2.2.2.2.2.2.2.2.2.2.2.2.2.2.2.2.2.2.2.2.2.2.2.2.2.2.1
noncomputable def s : Shared := deal_v.2.2.2.2.2.2.2.2.2.2.2.2.2.2.2.2.2.2.2.2.2.2.2.2.2.2.2.2.2.2.2.2.2.2.2.2.2.2.2.1
noncomputable def Q : Value → Shared → Prop := deal_v.2.2.2.2.2.2.2.2.2.2.2.2.2.2.2.2.2.2.2.2.2.2.2.2.2.2.2.2.2.2.2.2.2.2.2.2.2.2.2.2.1
noncomputable def E : Value → Shared → Prop := deal_v.2.2.2.2.2.2.2.2.2.2.2.2.2.2.2.2.2.2.2.2.2.2.2.2.2.2.2.2.2.2.2.2.2.2.2.2.2.2.2.2.2.1
noncomputable def g' : Heap := deal_v.2.2.2.2.2.2.2.2.2.2.2.2.2.2.2.2.2.2.2.2.2.2.2.2.2.2.2.2.2.2.2.2.2.2.2.2.2.2.2.2.2.2.1
noncomputable def L' : Addr := deal_v.2.2.2.2.2.2.2.2.2.2.2.2.2.2.2.2.2.2.2.2.2.2.2.2.2.2.2.2.2.2.2.2.2.2.2.2.2.2.2.2.2.2.2.1
noncomputable def h' : Heap := deal_v.2.2.2.2.2.2.2.2.2.2.2.2.2.2.2.2.2.2.2.2.2.2.2.2.2.2.2.2.2.2.2.2.2.2.2.2.2.2.2.2.2.2.2.2.1
noncomputable def tk' : Nat := deal_v.2.2.2.2.2.2.2.2.2.2.2.2.2.2.2.2.2.2.2.2.2.2.2.2.2.2.2.2.2.2.2.2.2.2.2.2.2.2.2.2.2.2.2.2.2.1
noncomputable def o1 : Obj := deal_v.2.2.2.2.2.2.2.2.2.2.2.2.2.2.2.2.2.2.2.2.2.2.2.2.2.2.2.2.2.2.2.2.2.2.2.2.2.2.2.2.2.2.2.2.2.2.1
noncomputable def qk : Flow → Shared → Prop := deal_v.2.2.2.2.2.2.2.2.2.2.2.2.2.2.2.2.2.2.2.2.2.2.2.2.2.2.2.2.2.2.2.2.2.2.2.2.2.2.2.2.2.2.2.2.2.2.2.1
noncomputable def ek : Value → Shared → Prop := deal_v.2.2.2.2.2.2.2.2.2.2.2.2.2.2.2.2.2.2.2.2.2.2.2.2.2.2.2.2.2.2.2.2.2.2.2.2.2.2.2.2.2.2.2.2.2.2.2.2
end dealK
open Mine.dealK in
noncomputable def dealW_in : { PRED : PySem.Heap → PySem.Tok → PySem.Tok → PySem.Tok → (PySem.Str → Option PySem.Value) → Nat → PySem.Tok → PySem.Tok → PySem.Addr → (PySem.Str → Option PySem.Value) → Nat → PySem.Tok → PySem.Tok → PySem.Addr → PySem.Addr → PySem.Addr → PySem.Heap → Nat → (List (PySem.Addr × PySem.Obj)) → (List (Nat × Nat)) → Prop // (∀ (hz1 : PySem.Heap) (tz3 : PySem.Tok) (uz4 : PySem.Tok) (vz5 : PySem.Tok) (mz12 : PySem.Str → Option PySem.Value) (tkA : Nat) (t : PySem.Tok) (t0 : PySem.Tok) (X : PySem.Addr) (m₂ : PySem.Str → Option PySem.Value) (tkB : Nat) (t2 : PySem.Tok) (t3 : PySem.Tok) (Y : PySem.Addr) (H : PySem.Addr) (SM : PySem.Addr) (hs2 : PySem.Heap) (tk : Nat) (nx0 : List (PySem.Addr × PySem.Obj)) (hp0 : List (Nat × Nat)), PRED hz1 tz3 uz4 vz5 mz12 tkA t t0 X m₂ tkB t2 t3 Y H SM hs2 tk nx0 hp0) → deal_in.1 dealK.w dealK.mean dealK.mg dealK.mb dealK.news dealK.SL dealK.A0 dealK.A1 dealK.ns dealK.c0 dealK.c1 dealK.a0 dealK.a1 dealK.a2 dealK.b0 dealK.b1 dealK.b2 dealK.spent dealK.ta0 dealK.ta1 dealK.ta2 dealK.tb0 dealK.tb1 dealK.tb2 dealK.ts dealK.dpt dealK.unt dealK.gd dealK.cn dealK.cs dealK.xa dealK.ccd dealK.cl dealK.outerE dealK.A₀ dealK.base dealK.h₀ dealK.L dealK.m dealK.s dealK.Q dealK.E dealK.g' dealK.L' dealK.h' dealK.tk' dealK.o1 dealK.qk dealK.ek } :=
  ⟨_, fun HYP => by
  unfold deal_in
  dsimp only
  k_fill
  intro hS h0 h1 hBel hIn hTop hdp hun hret i0 i1 FG' B' X' T' l1 N' F0 d1 hqk hek
  repeat' ((fail_if_success (with_reducible show wpAny _ _ (exec _ _) _ _ _)); (fail_if_success (with_reducible show LCg.CompSrc _ _ _ _ _ _ _ _ _ _ _ _ _ _)); (fail_if_success (with_reducible show LCg.CompEnd _ _ _ _ _ _ _ _ _ _ _ _ _ _)); (fail_if_success (with_reducible show InvPostR _ _ _ _ _ _ _ _)); (fail_if_success (with_reducible show Mid0 _ _ _ _ _ _)); (fail_if_success (with_reducible show WhileStep2 _ _ _ _ _ _ _ _)); (fail_if_success (with_reducible show InvPostN _ _ _ _ _ _ _ _ _)); (fail_if_success (with_reducible show wpAny _ _ (exec (Stmt.While _ _ _ _) _) _ _ _)); (fail_if_success (with_reducible show wpAny _ _ (exec (Stmt.For _ _ _ _ _) _) _ _ _)); first | (k_unfold; (try dsimp only)) | ((with_reducible refine hqk _ _ ?_); (try dsimp only)) | (walk1 <;> (try dsimp only)) | (dsimp only; walk1) | (leave1; walk_say "STEP leave1"; try dsimp only) | fail "no step")
  (k_dflt (refine LCg.Assign_ListComp_U (F₀ := by k_asm) (by rfl) (by with_unfolding_all rfl) (by with_unfolding_all rfl) (by decide) (by rfl) (by decide) (by rfl) (by rfl) (by rfl) ?_))
  repeat' ((fail_if_success (with_reducible show LCg.CompSrc _ _ _ _ _ _ _ _ _ _ _ _ _ _)); (fail_if_success (with_reducible show LCg.CompEnd _ _ _ _ _ _ _ _ _ _ _ _ _ _)); (fail_if_success (with_reducible show InvPostR _ _ _ _ _ _ _ _)); (fail_if_success (with_reducible show Mid0 _ _ _ _ _ _)); (fail_if_success (with_reducible show WhileStep2 _ _ _ _ _ _ _ _)); (fail_if_success (with_reducible show InvPostN _ _ _ _ _ _ _ _ _)); (fail_if_success (with_reducible show wpAny _ _ (exec (Stmt.While _ _ _ _) _) _ _ _)); (fail_if_success (with_reducible show wpAny _ _ (exec (Stmt.For _ _ _ _ _) _) _ _ _)); first | (k_unfold; (try dsimp only)) | ((with_reducible refine hqk _ _ ?_); (try dsimp only)) | (walk1 <;> (try dsimp only)) | (dsimp only; walk1) | (leave1; walk_say "STEP leave1"; try dsimp only) | fail "no step")
  (try clear F0)
  (rename Fr _ _ _ _ => F1); (rename News _ _ _ _ => N1)
  rename IsRange _ _ _ _ _ _ _ _ => iR
  refine LCg.CompSrc.range (n := 2) (by rfl) F1 N1 iR (small_one (by decide) (by decide) (by decide) (by decide)) rfl (by size_fits) ?_
  clear F1
  intro g1
  refine LCg.CompRest.succ ?_
  rintro v I oI C oC D m₂ h tkA E' ⟨t, rfl⟩ hC hx F2 N2 off ne
  have hx : m₂ (Str.ofString "k") = some (Value.int 0 t) := hx
  repeat' ((fail_if_success (with_reducible show LCg.CompSrc _ _ _ _ _ _ _ _ _ _ _ _ _ _)); (fail_if_success (with_reducible show LCg.CompEnd _ _ _ _ _ _ _ _ _ _ _ _ _ _)); (fail_if_success (with_reducible show InvPostR _ _ _ _ _ _ _ _)); (fail_if_success (with_reducible show Mid0 _ _ _ _ _ _)); (fail_if_success (with_reducible show WhileStep2 _ _ _ _ _ _ _ _)); (fail_if_success (with_reducible show InvPostN _ _ _ _ _ _ _ _ _)); (fail_if_success (with_reducible show wpAny _ _ (exec (Stmt.While _ _ _ _) _) _ _ _)); (fail_if_success (with_reducible show wpAny _ _ (exec (Stmt.For _ _ _ _ _) _) _ _ _)); first | (k_unfold; (try dsimp only)) | ((with_reducible refine hqk _ _ ?_); (try dsimp only)) | (walk1 <;> (try dsimp only)) | (dsimp only; walk1) | (leave1; walk_say "STEP leave1"; try dsimp only) | fail "no step")
  (rename Fr _ _ _ _ => F1); (rename News _ _ _ _ => N1)
  rename_i t0 X hX1 lX
  refine LCg.CompEnd.intro F1 N1 ((X, tup3 a0 t0 0 t 0 (tkA + 1) 0) :: (L' + 1, o1) :: news) (by intro p hp; simp only [List.mem_cons] at hp ⊢; rcases hp with h | h | h | h | h | h <;> simp [h]) ⟨⟨Nat.ne_of_gt lX.1, Nat.ne_of_gt lX.2.1, Nat.ne_of_gt lX.2.2.1⟩, off⟩ trivial ?_
  have lXc : L' + 1 < X := lX.2.2.2.1
  have lXn : ∀ p ∈ news, p.1 < X := allLt_mem lX.2.2.2.2
  (try clear F2); (try clear N2); clear F1 N1 hC hx off ne lX
  refine LCg.CompRest.succ ?_
  rintro v I oI C oC D m₂ h tkB E' ⟨t2, rfl⟩ hC hx F2 N2 off ne
  have hx : m₂ (Str.ofString "k") = some (Value.int 1 t2) := hx
  repeat' ((fail_if_success (with_reducible show LCg.CompSrc _ _ _ _ _ _ _ _ _ _ _ _ _ _)); (fail_if_success (with_reducible show LCg.CompEnd _ _ _ _ _ _ _ _ _ _ _ _ _ _)); (fail_if_success (with_reducible show InvPostR _ _ _ _ _ _ _ _)); (fail_if_success (with_reducible show Mid0 _ _ _ _ _ _)); (fail_if_success (with_reducible show WhileStep2 _ _ _ _ _ _ _ _)); (fail_if_success (with_reducible show InvPostN _ _ _ _ _ _ _ _ _)); (fail_if_success (with_reducible show wpAny _ _ (exec (Stmt.While _ _ _ _) _) _ _ _)); (fail_if_success (with_reducible show wpAny _ _ (exec (Stmt.For _ _ _ _ _) _) _ _ _)); first | (k_unfold; (try dsimp only)) | ((with_reducible refine hqk _ _ ?_); (try dsimp only)) | (walk1 <;> (try dsimp only)) | (dsimp only; walk1) | (leave1; walk_say "STEP leave1"; try dsimp only) | fail "no step")
  (rename Fr _ _ _ _ => F1); (rename News _ _ _ _ => N1)
  rename_i t3 Y hY1 lY
  refine LCg.CompEnd.intro F1 N1 ((Y, tup3 b0 t3 1 t2 0 (tkB + 1) 0) :: (X, tup3 a0 t0 0 t 0 (tkA + 1) 0) :: (L' + 1, o1) :: news) (by intro p hp; simp only [List.mem_cons] at hp ⊢; rcases hp with h | h | h | h | h | h | h <;> simp [h]) ⟨⟨Nat.ne_of_gt lY.1, Nat.ne_of_gt lY.2.1, Nat.ne_of_gt lY.2.2.1⟩, off⟩ trivial ?_
  have lYX : X < Y := lY.2.2.2.1
  have lYc : L' + 1 < Y := lY.2.2.2.2.1
  have lYn : ∀ p ∈ news, p.1 < Y := allLt_mem lY.2.2.2.2.2
  (try clear F2); (try clear N2); clear F1 N1 hC hx off ne lY
  refine LCg.CompRest.zero ?_
  unfold LCg.FinA
  intro H h2 tk2 F2 N2 oH
  have hH3 := off1_mem oH
  dsimp only
  repeat' ((fail_if_success (with_reducible show wpAny _ _ (call (Value.ref _) _) _ _ _)); (fail_if_success (with_reducible show LCg.CompSrc _ _ _ _ _ _ _ _ _ _ _ _ _ _)); (fail_if_success (with_reducible show LCg.CompEnd _ _ _ _ _ _ _ _ _ _ _ _ _ _)); (fail_if_success (with_reducible show InvPostR _ _ _ _ _ _ _ _)); (fail_if_success (with_reducible show Mid0 _ _ _ _ _ _)); (fail_if_success (with_reducible show WhileStep2 _ _ _ _ _ _ _ _)); (fail_if_success (with_reducible show InvPostN _ _ _ _ _ _ _ _ _)); (fail_if_success (with_reducible show wpAny _ _ (exec (Stmt.While _ _ _ _) _) _ _ _)); (fail_if_success (with_reducible show wpAny _ _ (exec (Stmt.For _ _ _ _ _) _) _ _ _)); first | (k_unfold; (try dsimp only)) | ((with_reducible refine hqk _ _ ?_); (try dsimp only)) | (walk1 <;> (try dsimp only)) | (dsimp only; walk1) | (leave1; walk_say "STEP leave1"; try dsimp only) | fail "no step")
  refine' spc_use (hfy2_spc ?a1 ?a2 ?a3 ?a4) ?k1 ?k2 ?k3 ?k4 ?k5 ?k6 ?k7 ?k8 ?_
  (case k1 | k2 | k3 | k4 | k5 => k_asm); (case k6 => first | exact rfl | assumption); (case k7 => ktr_room); (case k8 => ktr_units)
  (case a1 | a2 => k_mem)
  (case a3 => assumption)
  (case a4 => first | assumption | decide)
  dsimp only [RetHL]
  intro tS hS kS FS NS
  repeat' ((fail_if_success (with_reducible show LCg.CompSrc _ _ _ _ _ _ _ _ _ _ _ _ _ _)); (fail_if_success (with_reducible show LCg.CompEnd _ _ _ _ _ _ _ _ _ _ _ _ _ _)); (fail_if_success (with_reducible show InvPostR _ _ _ _ _ _ _ _)); (fail_if_success (with_reducible show Mid0 _ _ _ _ _ _)); (fail_if_success (with_reducible show WhileStep2 _ _ _ _ _ _ _ _)); (fail_if_success (with_reducible show InvPostN _ _ _ _ _ _ _ _ _)); (fail_if_success (with_reducible show wpAny _ _ (exec (Stmt.While _ _ _ _) _) _ _ _)); (fail_if_success (with_reducible show wpAny _ _ (exec (Stmt.For _ _ _ _ _) _) _ _ _)); first | (k_unfold; (try dsimp only)) | ((with_reducible refine hqk _ _ ?_); (try dsimp only)) | (walk1 <;> (try dsimp only)) | (dsimp only; walk1) | (leave1; walk_say "STEP leave1"; try dsimp only) | fail "no step")
  (rename Fr _ _ _ _ => F1); (rename News _ _ _ _ => N1)
  rename_i SM hs1 lS hs2
  have lS1 : ∀ p ∈ news, p.1 < SM := allLt_mem lS.2.2.2.2
  have hC1 : ∀ p ∈ (L' + 1, o1) :: news, p.1 ≠ H := fun p hp => hH3 p (List.Mem.tail _ (List.Mem.tail _ hp))
  have hC2 : ∀ p ∈ (L' + 1, o1) :: news, p.1 ≠ SM := by
    intro p hp
    rcases List.mem_cons.mp hp with rfl | hp
    · exact Nat.ne_of_lt lS.2.2.2.1
    · exact Nat.ne_of_lt (lS1 p hp)
  have hHS : H < SM := lS.1
  have hXH : X ≠ H := hH3 (X, _) (List.Mem.tail _ (List.Mem.head _))
  have hYH : Y ≠ H := hH3 (Y, _) (List.Mem.head _)
  have hXS : X ≠ SM := Nat.ne_of_lt lS.2.2.1
  have hYS : Y ≠ SM := Nat.ne_of_lt lS.2.1
  have start : ∃ nx hp, News g' L' hs2 nx ∧ HSh (fOf a0 a1 a2 b0 b1 b2) H SM (listOf [Value.int spent ts].toArray 0) ((L' + 1, o1) :: news) hp nx ∧ hp = (if lt2 a0 0 b0 1 = true then [(0, 0), (1, 0)] else [(1, 0), (0, 0)]) ∧ rem hp = 6 := by
    cases hq : lt2 a0 0 b0 1 with
    | true =>
      rw [hq, if_pos rfl] at N1
      refine ⟨_, _, ?_, HSh.two 0 0 1 0 X Y tS 0 0 t0 t (tkA + 1) t3 t2 (tkB + 1) (by decide) (by decide) (by decide) (by decide) (by decide) hXH hXS hYH hYS, rfl, rfl⟩
      intro p hp
      refine N1 p ?_
      simp only [List.mem_cons] at hp ⊢
      rcases hp with h | h | h | h | h | h
      · exact .inr (.inl h)
      · exact .inl h
      · exact .inr (.inr (.inr (.inl h)))
      · exact .inr (.inr (.inl h))
      · exact .inr (.inr (.inr (.inr (.inl h))))
      · exact .inr (.inr (.inr (.inr (.inr h))))
    | false =>
      rw [hq, if_neg Bool.false_ne_true] at N1
      refine ⟨_, _, ?_, HSh.two 1 0 0 0 Y X tS 0 0 t3 t2 (tkB + 1) t0 t (tkA + 1) (by decide) (by decide) (by decide) (by decide) (by decide) hYH hYS hXH hXS, rfl, rfl⟩
      intro p hp
      refine N1 p ?_
      simp only [List.mem_cons] at hp ⊢
      rcases hp with h | h | h | h | h | h
      · exact .inr (.inl h)
      · exact .inl h
      · exact .inr (.inr (.inl h))
      · exact .inr (.inr (.inr (.inl h)))
      · exact .inr (.inr (.inr (.inr (.inl h))))
      · exact .inr (.inr (.inr (.inr (.inr h))))
  clear N1
  obtain ⟨nx0, hp0, N1, sh0, hp0e, hr0⟩ := start
  rename_i hSz0 hz1 tkz2 tz3 uz4 vz5 az6 Iz7 oIz8 Cz9 oCz10 Dz11 mz12 hz13 Ez14 hxz15
  revert hr0; revert hp0e; revert sh0; revert N1; revert hYS; revert hXS; revert hYH; revert hXH; revert hHS; revert hC2; revert hC1; revert lS1; revert F1; revert lS; revert hH3; revert oH; revert lYn; revert lYc; revert lYX; revert hx; revert lXn; revert lXc; revert hxz15; revert az6; revert iR; revert hek; revert hqk; revert d1; revert l1; revert T'; revert X'; revert B'; revert FG'; revert i1; revert i0; revert hret; revert hun; revert hdp; revert hTop; revert hIn; revert hBel; revert h1; revert h0; revert hSz0
  revert hp0; revert nx0; revert tk; revert hs2; revert SM; revert H; revert Y; revert t3; revert t2; revert tkB; revert m₂; revert X; revert t0; revert t; revert tkA; revert mz12; revert vz5; revert uz4; revert tz3; revert hz1
  exact HYP⟩
noncomputable def dealW_B : PySem.Heap × PySem.Tok × PySem.Tok × PySem.Tok × (PySem.Str → Option PySem.Value) × Nat × PySem.Tok × PySem.Tok × PySem.Addr × (PySem.Str → Option PySem.Value) × Nat × PySem.Tok × PySem.Tok × PySem.Addr × PySem.Addr × PySem.Addr × PySem.Heap × Nat × (List (PySem.Addr × PySem.Obj)) × (List (Nat × Nat)) → Prop := fun v => dealW_in.1 v.1 v.2.1 v.2.2.1 v.2.2.2.1 v.2.2.2.2.1 v.2.2.2.2.2.1 v.2.2.2.2.2.2.1 v.2.2.2.2.2.2.2.1 v.2.2.2.2.2.2.2.2.1 v.2.2.2.2.2.2.2.2.2.1 v.2.2.2.2.2.2.2.2.2.2.1 v.2.2.2.2.2.2.2.2.2.2.2.1 v.2.2.2.2.2.2.2.2.2.2.2.2.1 v.2.2.2.2.2.2.2.2.2.2.2.2.2.1 v.2.2.2.2.2.2.2.2.2.2.2.2.2.2.1 v.2.2.2.2.2.2.2.2.2.2.2.2.2.2.2.1 v.2.2.2.2.2.2.2.2.2.2.2.2.2.2.2.2.1 v.2.2.2.2.2.2.2.2.2.2.2.2.2.2.2.2.2.1 v.2.2.2.2.2.2.2.2.2.2.2.2.2.2.2.2.2.2.1 v.2.2.2.2.2.2.2.2.2.2.2.2.2.2.2.2.2.2.2
noncomputable def dealW_v : PySem.Heap × PySem.Tok × PySem.Tok × PySem.Tok × (PySem.Str → Option PySem.Value) × Nat × PySem.Tok × PySem.Tok × PySem.Addr × (PySem.Str → Option PySem.Value) × Nat × PySem.Tok × PySem.Tok × PySem.Addr × PySem.Addr × PySem.Addr × PySem.Heap × Nat × (List (PySem.Addr × PySem.Obj)) × (List (Nat × Nat)) := Classical.choose (drink ⟨(default, default, default, default, default, default, default, default, default, default, default, default, default, default, default, default, default, default, default, default)⟩ dealW_B)
theorem dealW_s : dealW_B dealW_v → ∀ v, dealW_B v := by
  with_unfolding_all exact Classical.choose_spec (drink ⟨(default, default, default, default, default, default, default, default, default, default, default, default, default, default, default, default, default, default, default, default)⟩ dealW_B)
namespace dealWK
noncomputable def hz1 : PySem.Heap := dealW_v.1
noncomputable def tz3 : PySem.Tok := dealW_v.2.1
noncomputable def uz4 : PySem.Tok := dealW_v.2.2.1
noncomputable def vz5 : PySem.Tok := dealW_v.2.2.2.1
noncomputable def mz12 : PySem.Str → Option PySem.Value := dealW_v.2.2.2.2.1
noncomputable def tkA : Nat := dealW_v.2.2.2.2.2.1
noncomputable def t : PySem.Tok := dealW_v.2.2.2.2.2.2.1
noncomputable def t0 : PySem.Tok := dealW_v.2.2.2.2.2.2.2.1
noncomputable def X : PySem.Addr := dealW_v.2.2.2.2.2.2.2.2.1
noncomputable def m₂ : PySem.Str → Option PySem.Value := dealW_v.2.2.2.2.2.2.2.2.2.1
noncomputable def tkB : Nat := dealW_v.2.2.2.2.2.2.2.2.2.2.1
noncomputable def t2 : PySem.Tok := dealW_v.2.2.2.2.2.2.2.2.2.2.2.1
noncomputable def t3 : PySem.Tok := dealW_v.2.2.2.2.2.2.2.2.2.2.2.2.1
noncomputable def Y : PySem.Addr := dealW_v.2.2.2.2.2.2.2.2.2.2.2.2.2.1
noncomputable def H : PySem.Addr := dealW_v.2.2.2.2.2.2.2.2.2.2.2.2.2.2.1
noncomputable def SM : PySem.Addr := dealW_v.2.2.2.2.2.2.2.2.2.2.2.2.2.2.2.1
noncomputable def hs2 : PySem.Heap := dealW_v.2.2.2.2.2.2.2.2.2.2.2.2.2.2.2.2.1
noncomputable def tk : Nat := dealW_v.2.2.2.2.2.2.2.2.2.2.2.2.2.2.2.2.2.1
noncomputable def nx0 : List (PySem.Addr × PySem.Obj) := dealW_v.2.2.2.2.2.2.2.2.2.2.2.2.2.2.2.2.2.2.1
noncomputable def hp0 : List (Nat × Nat) := dealW_v.2.2.2.2.2.2.2.2.2.2.2.2.2.2.2.2.2.2.2
end dealWK
open Mine.dealK in
open Mine.dealWK in
theorem dealW_c : dealW_in.1 dealWK.hz1 dealWK.tz3 dealWK.uz4 dealWK.vz5 dealWK.mz12 dealWK.tkA dealWK.t dealWK.t0 dealWK.X dealWK.m₂ dealWK.tkB dealWK.t2 dealWK.t3 dealWK.Y dealWK.H dealWK.SM dealWK.hs2 dealWK.tk dealWK.nx0 dealWK.hp0 := by
  unfold dealW_in
  dsimp only
  k_fill
  intro hSz0 h0 h1 hBel hIn hTop hdp hun hret i0 i1 FG' B' X' T' l1 d1 hqk hek iR az6 hxz15 lXc lXn hx lYX lYc lYn oH hH3 lS F1 lS1 hC1 hC2 hHS hXH hYH hXS hYS N1 sh0 hp0e hr0
  --CUTW
  refine' While_inv2 (fun n m nx => ∃ (hp : List (Nat × Nat)) (ss : List Int) (svs : List Value) (c : Nat) (u : Str → Option Value), n = rem hp ∧ drun (fOf a0 a1 a2 b0 b1 b2) (rem hp) hp ss = dealt a0 a1 a2 b0 b1 b2 spent ∧ IntsAre svs ss ∧ ss.length + rem hp = 7 ∧
      HSh (fOf a0 a1 a2 b0 b1 b2) H SM (listOf svs.toArray c) ((L' + 1, o1) :: news) hp nx ∧
      m = lkj [Str.ofString "top", Str.ofString "k", Str.ofString "place", Str.ofString "gone"] u [(Str.ofString "heap", .ref H), (Str.ofString "sums", .ref SM), (Str.ofString "spent", .int spent ts)]) F1 N1 ⟨hp0, [spent], [_], _, ?uA, rfl, ?hdr, .cons _ _ .nil, ?hln, sh0, ?hmA⟩ ?turn
  case hmA => (refine feqj [Str.ofString "top", Str.ofString "k", Str.ofString "place", Str.ofString "gone"] [Str.ofString "heap", Str.ofString "sums", Str.ofString "spent"] ?fjm ?fjj ?fjo; (case fjm => (repeat' (first | exact List.forall_mem_nil _ | (refine List.forall_mem_cons.mpr ⟨by with_unfolding_all rfl, ?_⟩)))); (case fjj => decide); (case fjo => (intro y hy hz; simp only [List.forall_mem_cons, List.not_mem_nil, false_implies, implies_true, and_true] at hy; simp only [List.contains_cons, List.contains_nil, Bool.or_false, Bool.or_eq_false_iff] at hz; have hy2 := hy; simp only [← beq_eq_false_iff_ne] at hy2; have hz2 := hz; simp only [beq_eq_false_iff_ne] at hz2; simp [hy, hy2, hz, hz2, List.lookup_cons, lk, lkj])))
  case hdr => rw [hr0, hp0e]; rfl
  case hln => rw [hr0]; rfl
  clear F1 N1 sh0 hp0e hr0
  rintro n m1 nx h tk F2 N2 ⟨hp, ss, svs, c, u, rfl, hR, iss, hlen, sh, rfl⟩
  cases sh with
  | none n =>
    have hl1 : ss.length ≤ 7 := Nat.le_of_eq hlen
    have hR : ss = dealt a0 a1 a2 b0 b1 b2 spent := hR
    repeat' ((fail_if_success (with_reducible show LCg.CompSrc _ _ _ _ _ _ _ _ _ _ _ _ _ _)); (fail_if_success (with_reducible show LCg.CompEnd _ _ _ _ _ _ _ _ _ _ _ _ _ _)); (fail_if_success (with_reducible show InvPostR _ _ _ _ _ _ _ _)); (fail_if_success (with_reducible show Mid0 _ _ _ _ _ _)); (fail_if_success (with_reducible show WhileStep2 _ _ _ _ _ _ _ _)); (fail_if_success (with_reducible show InvPostN _ _ _ _ _ _ _ _ _)); (fail_if_success (with_reducible show wpAny _ _ (exec (Stmt.While _ _ _ _) _) _ _ _)); (fail_if_success (with_reducible show wpAny _ _ (exec (Stmt.For _ _ _ _ _) _) _ _ _)); first | (k_unfold; (try dsimp only)) | ((with_reducible refine hqk _ _ ?_); (try dsimp only)) | (walk1 <;> (try dsimp only)) | (dsimp only; walk1) | (leave1; walk_say "STEP leave1"; try dsimp only) | fail "no step")
    rename Fr _ _ _ _ => F1
    rename News _ _ _ _ => N1
    subst hR
    refine hret SM svs c _ _ F1 (fun p hp => N1 p ?_) iss lS1
    rcases List.mem_cons.mp hp with h | h
    · exact .tail _ (.tail _ (by rw [h]; exact .head _))
    · exact .tail _ (.tail _ (.tail _ (.tail _ h)))
  | one k p x n nx t1 t2 t3 hk hp3 hxH hxS =>
    have hsv := iss.length
    have hl1 : 1 ≤ ss.length ∧ ss.length ≤ 7 := l1one hp3 hlen
    obtain ⟨Ak, ck, fe0, fe1, fe2, hAk, hsel⟩ := sel h0 h1 hk
    have iAk : IntsAre [Value.int (fOf a0 a1 a2 b0 b1 b2 k 0) fe0, Value.int (fOf a0 a1 a2 b0 b1 b2 k 1) fe1, Value.int (fOf a0 a1 a2 b0 b1 b2 k 2) fe2] [fOf a0 a1 a2 b0 b1 b2 k 0, fOf a0 a1 a2 b0 b1 b2 k 1, fOf a0 a1 a2 b0 b1 b2 k 2] := .cons _ _ (.cons _ _ (.cons _ _ .nil))
    have hrl : ([] : List (Nat × Nat)).length ≤ 1 := Nat.zero_le _
    repeat' ((fail_if_success (with_reducible show wpAny _ _ (call (Value.ref _) _) _ _ _)); (fail_if_success (with_reducible show LCg.CompSrc _ _ _ _ _ _ _ _ _ _ _ _ _ _)); (fail_if_success (with_reducible show LCg.CompEnd _ _ _ _ _ _ _ _ _ _ _ _ _ _)); (fail_if_success (with_reducible show InvPostR _ _ _ _ _ _ _ _)); (fail_if_success (with_reducible show Mid0 _ _ _ _ _ _)); (fail_if_success (with_reducible show WhileStep2 _ _ _ _ _ _ _ _)); (fail_if_success (with_reducible show InvPostN _ _ _ _ _ _ _ _ _)); (fail_if_success (with_reducible show wpAny _ _ (exec (Stmt.While _ _ _ _) _) _ _ _)); (fail_if_success (with_reducible show wpAny _ _ (exec (Stmt.For _ _ _ _ _) _) _ _ _)); first | (k_unfold; (try dsimp only)) | ((with_reducible refine hqk _ _ ?_); (try dsimp only)) | (walk1 <;> (try dsimp only)) | (dsimp only; walk1) | (leave1; walk_say "STEP leave1"; try dsimp only) | fail "no step")
    · (rename Fr _ _ _ _ => F1); (rename News _ _ _ _ => N1)
      rename_i tkq _ _ _ _ _ _ _ hp1 t' D hD lD
      have hDH : D ≠ H := Nat.ne_of_gt lD.2.2.1
      have hDS : D ≠ SM := Nat.ne_of_gt lD.2.2.2.1
      have hp2 : p + 1 < 3 := by clear hl1 hlen; omega
      have N3 : News g' L' hD ((H, listOf [Value.ref x].toArray n) :: (D, tup3 (fOf a0 a1 a2 b0 b1 b2 k (p + 1)) t' ↑k t2 ↑(p + 1) (tkq + 1 + 1 + 1) 0) :: (SM, listOf svs.toArray c) :: (x, tup3 (fOf a0 a1 a2 b0 b1 b2 k p) t1 ↑k t2 ↑p t3 nx) :: (L' + 1, o1) :: news) := by
        have N1' := nw_a N1
        rw [fOfg (f := fOf a0 a1 a2 b0 b1 b2 k) hp2] at N1'
        exact N1'
      clear N1
      have hHr : ∀ r ∈ (D, tup3 (fOf a0 a1 a2 b0 b1 b2 k (p + 1)) t' ↑k t2 ↑(p + 1) (tkq + 1 + 1 + 1) 0) :: (SM, listOf svs.toArray c) :: (x, tup3 (fOf a0 a1 a2 b0 b1 b2 k p) t1 ↑k t2 ↑p t3 nx) :: (L' + 1, o1) :: news, r.1 ≠ H := ne_cons hDH (ne_cons (Nat.ne_of_gt hHS) (ne_cons hxH hC1))
      refine' spc_use (repl1_spc ?a0P1) ?k1P1 ?k2P1 ?k3P1 ?k4P1 ?k5P1 ?k6P1 ?k7P1 ?k8P1 ?_
      (case k1P1 => k_asm)
      (case k2P1 => k_asm)
      (case k3P1 => k_asm)
      (case k4P1 => k_asm)
      (case k5P1 => k_asm)
      (case k6P1 => first | exact rfl | assumption)
      (case k7P1 => ktr_room)
      (case k8P1 => ktr_units)
      (case a0P1 => assumption)
      dsimp only [RetHL]
      intro nR hR4 kR FR NR
      repeat' ((fail_if_success (with_reducible show LCg.CompSrc _ _ _ _ _ _ _ _ _ _ _ _ _ _)); (fail_if_success (with_reducible show LCg.CompEnd _ _ _ _ _ _ _ _ _ _ _ _ _ _)); (fail_if_success (with_reducible show InvPostR _ _ _ _ _ _ _ _)); (fail_if_success (with_reducible show Mid0 _ _ _ _ _ _)); (fail_if_success (with_reducible show WhileStep2 _ _ _ _ _ _ _ _)); (fail_if_success (with_reducible show InvPostN _ _ _ _ _ _ _ _ _)); (fail_if_success (with_reducible show wpAny _ _ (exec (Stmt.While _ _ _ _) _) _ _ _)); (fail_if_success (with_reducible show wpAny _ _ (exec (Stmt.For _ _ _ _ _) _) _ _ _)); first | (k_unfold; (try dsimp only)) | ((with_reducible refine hqk _ _ ?_); (try dsimp only)) | (walk1 <;> (try dsimp only)) | (dsimp only; walk1) | (leave1; walk_say "STEP leave1"; try dsimp only) | fail "no step")
      (rename Fr _ _ _ _ => F1); (rename News _ _ _ _ => N1)
      (try simp only [List.push_toArray] at N1)
      obtain ⟨nx', N4, sh4⟩ := sh_one1 hp2 hk hDH hDS N1
      refine' step2 (rem (dstep (fOf a0 a1 a2 b0 b1 b2) [(k, p)])) F1 N4 (by have := rem_dstep (fOf a0 a1 a2 b0 b1 b2) (k := k) (p := p) hp3 (r := _) hrl; exact Nat.lt_of_lt_of_eq (Nat.lt_succ_self _) this) ⟨_, ss ++ [lastD ss + fOf a0 a1 a2 b0 b1 b2 k p], _, _, ?uAC, rfl, drun_dstep hp3 hrl hR, ia_snoc iss, ?lAC, sh4, ?mAC⟩
      case lAC => exact len7 (rem_dstep (fOf a0 a1 a2 b0 b1 b2) (k := k) (p := p) hp3 (r := _) hrl) hlen
      case mAC => (refine feqj [Str.ofString "top", Str.ofString "k", Str.ofString "place", Str.ofString "gone"] [Str.ofString "heap", Str.ofString "sums", Str.ofString "spent"] ?fjm ?fjj ?fjo; (case fjm => (repeat' (first | exact List.forall_mem_nil _ | (refine List.forall_mem_cons.mpr ⟨by with_unfolding_all rfl, ?_⟩)))); (case fjj => decide); (case fjo => (intro y hy hz; simp only [List.forall_mem_cons, List.not_mem_nil, false_implies, implies_true, and_true] at hy; simp only [List.contains_cons, List.contains_nil, Bool.or_false, Bool.or_eq_false_iff] at hz; have hy2 := hy; simp only [← beq_eq_false_iff_ne] at hy2; have hz2 := hz; simp only [beq_eq_false_iff_ne] at hz2; simp [hy, hy2, hz, hz2, List.lookup_cons, lk, lkj])))
    · (rename Fr _ _ _ _ => F1); (rename News _ _ _ _ => N1)
      rename_i _ hp1
      have hp2 : ¬ p + 1 < 3 := by clear hl1 hlen; omega
      have N3 := nw_b N1
      clear N1
      have hHr : ∀ r ∈ (SM, listOf svs.toArray c) :: (x, tup3 (fOf a0 a1 a2 b0 b1 b2 k p) t1 ↑k t2 ↑p t3 nx) :: (L' + 1, o1) :: news, r.1 ≠ H := ne_cons (Nat.ne_of_gt hHS) (ne_cons hxH hC1)
      refine' spc_use (pop1_spc ?a0P2) ?k1P2 ?k2P2 ?k3P2 ?k4P2 ?k5P2 ?k6P2 ?k7P2 ?k8P2 ?_
      (case k1P2 => k_asm)
      (case k2P2 => k_asm)
      (case k3P2 => k_asm)
      (case k4P2 => k_asm)
      (case k5P2 => k_asm)
      (case k6P2 => first | exact rfl | assumption)
      (case k7P2 => ktr_room)
      (case k8P2 => ktr_units)
      (case a0P2 => assumption)
      dsimp only [RetHL]
      intro nR hR4 kR FR NR
      repeat' ((fail_if_success (with_reducible show LCg.CompSrc _ _ _ _ _ _ _ _ _ _ _ _ _ _)); (fail_if_success (with_reducible show LCg.CompEnd _ _ _ _ _ _ _ _ _ _ _ _ _ _)); (fail_if_success (with_reducible show InvPostR _ _ _ _ _ _ _ _)); (fail_if_success (with_reducible show Mid0 _ _ _ _ _ _)); (fail_if_success (with_reducible show WhileStep2 _ _ _ _ _ _ _ _)); (fail_if_success (with_reducible show InvPostN _ _ _ _ _ _ _ _ _)); (fail_if_success (with_reducible show wpAny _ _ (exec (Stmt.While _ _ _ _) _) _ _ _)); (fail_if_success (with_reducible show wpAny _ _ (exec (Stmt.For _ _ _ _ _) _) _ _ _)); first | (k_unfold; (try dsimp only)) | ((with_reducible refine hqk _ _ ?_); (try dsimp only)) | (walk1 <;> (try dsimp only)) | (dsimp only; walk1) | (leave1; walk_say "STEP leave1"; try dsimp only) | fail "no step")
      (rename Fr _ _ _ _ => F1); (rename News _ _ _ _ => N1)
      (try simp only [List.push_toArray] at N1)
      obtain ⟨nx', N4, sh4⟩ := sh_one0 hp2 N1
      refine' step2 (rem (dstep (fOf a0 a1 a2 b0 b1 b2) [(k, p)])) F1 N4 (by have := rem_dstep (fOf a0 a1 a2 b0 b1 b2) (k := k) (p := p) hp3 (r := _) hrl; exact Nat.lt_of_lt_of_eq (Nat.lt_succ_self _) this) ⟨_, ss ++ [lastD ss + fOf a0 a1 a2 b0 b1 b2 k p], _, _, ?uBC, rfl, drun_dstep hp3 hrl hR, ia_snoc iss, ?lBC, sh4, ?mBC⟩
      case lBC => exact len7 (rem_dstep (fOf a0 a1 a2 b0 b1 b2) (k := k) (p := p) hp3 (r := _) hrl) hlen
      case mBC => (refine feqj [Str.ofString "top", Str.ofString "k", Str.ofString "place", Str.ofString "gone"] [Str.ofString "heap", Str.ofString "sums", Str.ofString "spent"] ?fjm ?fjj ?fjo; (case fjm => (repeat' (first | exact List.forall_mem_nil _ | (refine List.forall_mem_cons.mpr ⟨by with_unfolding_all rfl, ?_⟩)))); (case fjj => decide); (case fjo => (intro y hy hz; simp only [List.forall_mem_cons, List.not_mem_nil, false_implies, implies_true, and_true] at hy; simp only [List.contains_cons, List.contains_nil, Bool.or_false, Bool.or_eq_false_iff] at hz; have hy2 := hy; simp only [← beq_eq_false_iff_ne] at hy2; have hz2 := hz; simp only [beq_eq_false_iff_ne] at hz2; simp [hy, hy2, hz, hz2, List.lookup_cons, lk, lkj])))
  | two k p j q x y n nx ny t1 t2 t3 u1 u2 u3 hk hj hkj hp3 hq3 hxH hxS hyH hyS =>
    have hsv := iss.length
    have hl1 : 1 ≤ ss.length ∧ ss.length ≤ 7 := l1two hp3 hq3 hlen
    obtain ⟨Ak, ck, fe0, fe1, fe2, hAk, hsel⟩ := sel h0 h1 hk
    have iAk : IntsAre [Value.int (fOf a0 a1 a2 b0 b1 b2 k 0) fe0, Value.int (fOf a0 a1 a2 b0 b1 b2 k 1) fe1, Value.int (fOf a0 a1 a2 b0 b1 b2 k 2) fe2] [fOf a0 a1 a2 b0 b1 b2 k 0, fOf a0 a1 a2 b0 b1 b2 k 1, fOf a0 a1 a2 b0 b1 b2 k 2] := .cons _ _ (.cons _ _ (.cons _ _ .nil))
    have hrl : ([(j, q)] : List (Nat × Nat)).length ≤ 1 := Nat.le_refl _
    repeat' ((fail_if_success (with_reducible show wpAny _ _ (call (Value.ref _) _) _ _ _)); (fail_if_success (with_reducible show LCg.CompSrc _ _ _ _ _ _ _ _ _ _ _ _ _ _)); (fail_if_success (with_reducible show LCg.CompEnd _ _ _ _ _ _ _ _ _ _ _ _ _ _)); (fail_if_success (with_reducible show InvPostR _ _ _ _ _ _ _ _)); (fail_if_success (with_reducible show Mid0 _ _ _ _ _ _)); (fail_if_success (with_reducible show WhileStep2 _ _ _ _ _ _ _ _)); (fail_if_success (with_reducible show InvPostN _ _ _ _ _ _ _ _ _)); (fail_if_success (with_reducible show wpAny _ _ (exec (Stmt.While _ _ _ _) _) _ _ _)); (fail_if_success (with_reducible show wpAny _ _ (exec (Stmt.For _ _ _ _ _) _) _ _ _)); first | (k_unfold; (try dsimp only)) | ((with_reducible refine hqk _ _ ?_); (try dsimp only)) | (walk1 <;> (try dsimp only)) | (dsimp only; walk1) | (leave1; walk_say "STEP leave1"; try dsimp only) | fail "no step")
    · (rename Fr _ _ _ _ => F1); (rename News _ _ _ _ => N1)
      rename_i tkq _ _ _ _ _ _ _ hp1 t' D hD lD
      have hDH : D ≠ H := Nat.ne_of_gt lD.2.2.1
      have hDS : D ≠ SM := Nat.ne_of_gt lD.2.2.2.1
      have hp2 : p + 1 < 3 := by clear hl1 hlen; omega
      have N3 : News g' L' hD ((H, listOf [Value.ref x, Value.ref y].toArray n) :: (D, tup3 (fOf a0 a1 a2 b0 b1 b2 k (p + 1)) t' ↑k t2 ↑(p + 1) (tkq + 1 + 1 + 1) 0) :: (SM, listOf svs.toArray c) :: (x, tup3 (fOf a0 a1 a2 b0 b1 b2 k p) t1 ↑k t2 ↑p t3 nx) :: (y, tup3 (fOf a0 a1 a2 b0 b1 b2 j q) u1 ↑j u2 ↑q u3 ny) :: (L' + 1, o1) :: news) := by
        have N1' := nw_a N1
        rw [fOfg (f := fOf a0 a1 a2 b0 b1 b2 k) hp2] at N1'
        exact N1'
      clear N1
      have hHr : ∀ r ∈ (D, tup3 (fOf a0 a1 a2 b0 b1 b2 k (p + 1)) t' ↑k t2 ↑(p + 1) (tkq + 1 + 1 + 1) 0) :: (SM, listOf svs.toArray c) :: (x, tup3 (fOf a0 a1 a2 b0 b1 b2 k p) t1 ↑k t2 ↑p t3 nx) :: (y, tup3 (fOf a0 a1 a2 b0 b1 b2 j q) u1 ↑j u2 ↑q u3 ny) :: (L' + 1, o1) :: news, r.1 ≠ H := ne_cons hDH (ne_cons (Nat.ne_of_gt hHS) (ne_cons hxH (ne_cons hyH hC1)))
      refine' spc_use (repl2_spc ?a0Q1 ?a1Q1 ?a2Q1 ?a3Q1) ?k1Q1 ?k2Q1 ?k3Q1 ?k4Q1 ?k5Q1 ?k6Q1 ?k7Q1 ?k8Q1 ?_
      (case k1Q1 => k_asm)
      (case k2Q1 => k_asm)
      (case k3Q1 => k_asm)
      (case k4Q1 => k_asm)
      (case k5Q1 => k_asm)
      (case k6Q1 => first | exact rfl | assumption)
      (case k7Q1 => ktr_room)
      (case k8Q1 => ktr_units)
      (case a0Q1 => k_mem)
      (case a1Q1 => k_mem)
      (case a2Q1 => assumption)
      (case a3Q1 => omega)
      dsimp only [RetHL]
      intro nR hR4 kR FR NR
      repeat' ((fail_if_success (with_reducible show LCg.CompSrc _ _ _ _ _ _ _ _ _ _ _ _ _ _)); (fail_if_success (with_reducible show LCg.CompEnd _ _ _ _ _ _ _ _ _ _ _ _ _ _)); (fail_if_success (with_reducible show InvPostR _ _ _ _ _ _ _ _)); (fail_if_success (with_reducible show Mid0 _ _ _ _ _ _)); (fail_if_success (with_reducible show WhileStep2 _ _ _ _ _ _ _ _)); (fail_if_success (with_reducible show InvPostN _ _ _ _ _ _ _ _ _)); (fail_if_success (with_reducible show wpAny _ _ (exec (Stmt.While _ _ _ _) _) _ _ _)); (fail_if_success (with_reducible show wpAny _ _ (exec (Stmt.For _ _ _ _ _) _) _ _ _)); first | (k_unfold; (try dsimp only)) | ((with_reducible refine hqk _ _ ?_); (try dsimp only)) | (walk1 <;> (try dsimp only)) | (dsimp only; walk1) | (leave1; walk_say "STEP leave1"; try dsimp only) | fail "no step")
      (rename Fr _ _ _ _ => F1); (rename News _ _ _ _ => N1)
      (try simp only [List.push_toArray] at N1)
      obtain ⟨nx', N4, sh4⟩ := sh_two2 hp2 hk hj hkj hq3 hDH hDS hyH hyS N1
      refine' step2 (rem (dstep (fOf a0 a1 a2 b0 b1 b2) [(k, p), (j, q)])) F1 N4 (by have := rem_dstep (fOf a0 a1 a2 b0 b1 b2) (k := k) (p := p) hp3 (r := _) hrl; exact Nat.lt_of_lt_of_eq (Nat.lt_succ_self _) this) ⟨_, ss ++ [lastD ss + fOf a0 a1 a2 b0 b1 b2 k p], _, _, ?uAE, rfl, drun_dstep hp3 hrl hR, ia_snoc iss, ?lAE, sh4, ?mAE⟩
      case lAE => exact len7 (rem_dstep (fOf a0 a1 a2 b0 b1 b2) (k := k) (p := p) hp3 (r := _) hrl) hlen
      case mAE => (refine feqj [Str.ofString "top", Str.ofString "k", Str.ofString "place", Str.ofString "gone"] [Str.ofString "heap", Str.ofString "sums", Str.ofString "spent"] ?fjm ?fjj ?fjo; (case fjm => (repeat' (first | exact List.forall_mem_nil _ | (refine List.forall_mem_cons.mpr ⟨by with_unfolding_all rfl, ?_⟩)))); (case fjj => decide); (case fjo => (intro y hy hz; simp only [List.forall_mem_cons, List.not_mem_nil, false_implies, implies_true, and_true] at hy; simp only [List.contains_cons, List.contains_nil, Bool.or_false, Bool.or_eq_false_iff] at hz; have hy2 := hy; simp only [← beq_eq_false_iff_ne] at hy2; have hz2 := hz; simp only [beq_eq_false_iff_ne] at hz2; simp [hy, hy2, hz, hz2, List.lookup_cons, lk, lkj])))
    · (rename Fr _ _ _ _ => F1); (rename News _ _ _ _ => N1)
      rename_i _ hp1
      have hp2 : ¬ p + 1 < 3 := by clear hl1 hlen; omega
      have N3 := nw_b N1
      clear N1
      have hHr : ∀ r ∈ (SM, listOf svs.toArray c) :: (x, tup3 (fOf a0 a1 a2 b0 b1 b2 k p) t1 ↑k t2 ↑p t3 nx) :: (y, tup3 (fOf a0 a1 a2 b0 b1 b2 j q) u1 ↑j u2 ↑q u3 ny) :: (L' + 1, o1) :: news, r.1 ≠ H := ne_cons (Nat.ne_of_gt hHS) (ne_cons hxH (ne_cons hyH hC1))
      refine' spc_use (pop2_spc ?a0Q2) ?k1Q2 ?k2Q2 ?k3Q2 ?k4Q2 ?k5Q2 ?k6Q2 ?k7Q2 ?k8Q2 ?_
      (case k1Q2 => k_asm)
      (case k2Q2 => k_asm)
      (case k3Q2 => k_asm)
      (case k4Q2 => k_asm)
      (case k5Q2 => k_asm)
      (case k6Q2 => first | exact rfl | assumption)
      (case k7Q2 => ktr_room)
      (case k8Q2 => ktr_units)
      (case a0Q2 => assumption)
      dsimp only [RetHL]
      intro nR hR4 kR FR NR
      repeat' ((fail_if_success (with_reducible show LCg.CompSrc _ _ _ _ _ _ _ _ _ _ _ _ _ _)); (fail_if_success (with_reducible show LCg.CompEnd _ _ _ _ _ _ _ _ _ _ _ _ _ _)); (fail_if_success (with_reducible show InvPostR _ _ _ _ _ _ _ _)); (fail_if_success (with_reducible show Mid0 _ _ _ _ _ _)); (fail_if_success (with_reducible show WhileStep2 _ _ _ _ _ _ _ _)); (fail_if_success (with_reducible show InvPostN _ _ _ _ _ _ _ _ _)); (fail_if_success (with_reducible show wpAny _ _ (exec (Stmt.While _ _ _ _) _) _ _ _)); (fail_if_success (with_reducible show wpAny _ _ (exec (Stmt.For _ _ _ _ _) _) _ _ _)); first | (k_unfold; (try dsimp only)) | ((with_reducible refine hqk _ _ ?_); (try dsimp only)) | (walk1 <;> (try dsimp only)) | (dsimp only; walk1) | (leave1; walk_say "STEP leave1"; try dsimp only) | fail "no step")
      (rename Fr _ _ _ _ => F1); (rename News _ _ _ _ => N1)
      (try simp only [List.push_toArray] at N1)
      obtain ⟨nx', N4, sh4⟩ := sh_two1 hp2 hj hq3 hyH hyS N1
      refine' step2 (rem (dstep (fOf a0 a1 a2 b0 b1 b2) [(k, p), (j, q)])) F1 N4 (by have := rem_dstep (fOf a0 a1 a2 b0 b1 b2) (k := k) (p := p) hp3 (r := _) hrl; exact Nat.lt_of_lt_of_eq (Nat.lt_succ_self _) this) ⟨_, ss ++ [lastD ss + fOf a0 a1 a2 b0 b1 b2 k p], _, _, ?uBE, rfl, drun_dstep hp3 hrl hR, ia_snoc iss, ?lBE, sh4, ?mBE⟩
      case lBE => exact len7 (rem_dstep (fOf a0 a1 a2 b0 b1 b2) (k := k) (p := p) hp3 (r := _) hrl) hlen
      case mBE => (refine feqj [Str.ofString "top", Str.ofString "k", Str.ofString "place", Str.ofString "gone"] [Str.ofString "heap", Str.ofString "sums", Str.ofString "spent"] ?fjm ?fjj ?fjo; (case fjm => (repeat' (first | exact List.forall_mem_nil _ | (refine List.forall_mem_cons.mpr ⟨by with_unfolding_all rfl, ?_⟩)))); (case fjj => decide); (case fjo => (intro y hy hz; simp only [List.forall_mem_cons, List.not_mem_nil, false_implies, implies_true, and_true] at hy; simp only [List.contains_cons, List.contains_nil, Bool.or_false, Bool.or_eq_false_iff] at hz; have hy2 := hy; simp only [← beq_eq_false_iff_ne] at hy2; have hz2 := hz; simp only [beq_eq_false_iff_ne] at hz2; simp [hy, hy2, hz, hz2, List.lookup_cons, lk, lkj])))
theorem deal_c : deal_in.1 dealK.w dealK.mean dealK.mg dealK.mb dealK.news dealK.SL dealK.A0 dealK.A1 dealK.ns dealK.c0 dealK.c1 dealK.a0 dealK.a1 dealK.a2 dealK.b0 dealK.b1 dealK.b2 dealK.spent dealK.ta0 dealK.ta1 dealK.ta2 dealK.tb0 dealK.tb1 dealK.tb2 dealK.ts dealK.dpt dealK.unt dealK.gd dealK.cn dealK.cs dealK.xa dealK.ccd dealK.cl dealK.outerE dealK.A₀ dealK.base dealK.h₀ dealK.L dealK.m dealK.s dealK.Q dealK.E dealK.g' dealK.L' dealK.h' dealK.tk' dealK.o1 dealK.qk dealK.ek := dealW_in.2 (fun hz1 tz3 uz4 vz5 mz12 tkA t t0 X m₂ tkB t2 t3 Y H SM hs2 tk nx0 hp0 => dealW_s dealW_c (hz1, tz3, uz4, vz5, mz12, tkA, t, t0, X, m₂, tkB, t2, t3, Y, H, SM, hs2, tk, nx0, hp0))
theorem deal_spc {w : World} {mean : ExcName → Option Value} {mg mb : Str → Option Value} {news : List (Addr × Obj)} {SL A0 A1 : Addr} {ns c0 c1 : Nat} {a0 a1 a2 b0 b1 b2 spent : Int} {ta0 ta1 ta2 tb0 tb1 tb2 ts : Tok}
    (hS : (SL, listOf [Value.ref A0, Value.ref A1].toArray ns) ∈ news) (h0 : (A0, listOf [Value.int a0 ta0, Value.int a1 ta1, Value.int a2 ta2].toArray c0) ∈ news) (h1 : (A1, listOf [Value.int b0 tb0, Value.int b1 tb1, Value.int b2 tb2].toArray c1) ∈ news) :
    Spc w mean mg mb 96 8 news [.ref SL, .int spent ts] (RetL news (dealt a0 a1 a2 b0 b1 b2 spent)) :=
  (deal_in.2 (fun w mean mg mb news SL A0 A1 ns c0 c1 a0 a1 a2 b0 b1 b2 spent ta0 ta1 ta2 tb0 tb1 tb2 ts dpt unt gd cn cs xa ccd cl outerE A₀ base h₀ L m s Q E g' L' h' tk' o1 qk ek => deal_s deal_c (w, mean, mg, mb, news, SL, A0, A1, ns, c0, c1, a0, a1, a2, b0, b1, b2, spent, ta0, ta1, ta2, tb0, tb1, tb2, ts, dpt, unt, gd, cn, cs, xa, ccd, cl, outerE, A₀, base, h₀, L, m, s, Q, E, g', L', h', tk', o1, qk, ek))) w mean mg mb news SL A0 A1 ns c0 c1 a0 a1 a2 b0 b1 b2 spent ta0 ta1 ta2 tb0 tb1 tb2 ts hS h0 h1
end Mine
end

local macro_rules | `(tactic| walk_at "zz") => `(tactic| fail "no such key")
local macro_rules | `(tactic| walk_at "zz") => `(tactic| fail "no such key")

section
open PySem PySem.W PyProof.Rows
set_option Elab.async false
set_option maxRecDepth 100000
set_option maxHeartbeats 8000000
open PySem.Calls PyProof.V PySem.Spec PyProof.Rows.LCg
namespace Mine
theorem off1_of {D : Addr} : ∀ {l : List (Addr × Obj)}, (∀ p ∈ l, p.1 ≠ D) → Off1 D l
  | [], _ => trivial
  | _ :: _, h => ⟨h _ List.mem_cons_self, off1_of fun p hp => h p (List.mem_cons_of_mem _ hp)⟩
noncomputable def EnEnd (h₀ : Heap) (L : Addr) (m : Str → Option Value) (s : Shared) (news : List (Addr × Obj)) (G : Value → Prop) (y : Value) (s' : Shared) : Prop :=
  ∃ h tk, s' = { s with heap := h, toks := tk } ∧ Fr h₀ L h m ∧ News h₀ L h news ∧ G y
section
variable {prog : Program} {w : World} {A : Around} {E : Value → Shared → Prop} {s : Shared} {h₀ : Heap} {L : Addr} {m : Str → Option Value} {env : Env}
noncomputable def EnTurn (prog : Program) (w : World) (A : Around) (h₀ : Heap) (L : Addr) (m : Str → Option Value) (env : Env) (elt : PySem.Expr) (a b : Str) (scope : Scope) (cl : List (Str × Addr)) (s : Shared) (vs : List Value) (news : List (Addr × Obj)) (J : Nat → List Value → Prop) : Prop :=
  ∀ (i : Nat) (v : Value) (ys : List Value) (t : Tok) (e : Addr) (oE : Obj) (it : Addr) (oI : Obj) (C : Addr) (oC : Obj) (D : Addr) (m₂ : Str → Option Value) (h : Heap) (tk : Nat) (E' : Value → Shared → Prop), vs[i]? = some v → J i ys → NsObj oC m₂ → m₂ a = some (.int i t) → m₂ b = some v →
    Fr h₀ L h m → News h₀ L h ((e, oE) :: (it, oI) :: (C, oC) :: (D, lst ys) :: news) →
    wpAny (model prog w) A (eval elt (compEnvC scope cl C env)) (EnEnd h₀ L m { s with heap := h, toks := tk } ((e, oE) :: (it, oI) :: (C, oC) :: (D, lst ys) :: news) (fun y => J (i + 1) (ys ++ [y]))) E' { s with heap := h, toks := tk }
end
noncomputable def en_blockz_in : { PRED : Program → World → Around → (Value → Shared → Prop) → Heap → Addr → (Str → Option Value) → Env → PySem.Expr → PySem.Expr → Str → Str → Pos → Pos → Pos → Nat → Scope → (List (Str × Addr)) → Pos → Shared → Addr → Addr → Addr → Obj → Value → (List Value) → Nat → (List (Addr × Obj)) → (Nat → List Value → Prop) → (Value → Addr → Result → Shared → Prop) → Prop // (∀ (prog : Program) (w : World) (A : Around) (E : Value → Shared → Prop) (h₀ : Heap) (L : Addr) (m : Str → Option Value) (env : Env) (elt : PySem.Expr) (iter : PySem.Expr) (a : Str) (b : Str) (pa : Pos) (pb : Pos) (tp : Pos) (kk : Nat) (scope : Scope) (cl : List (Str × Addr)) (pos : Pos) (s₂ : Shared) (e : Addr) (it : Addr) (l : Addr) (lo : Obj) (old : Value) (vs : List Value) (n : Nat) (news : List (Addr × Obj)) (J : Nat → List Value → Prop) (RR : Value → Addr → Result → Shared → Prop), PRED prog w A E h₀ L m env elt iter a b pa pb tp kk scope cl pos s₂ e it l lo old vs n news J RR) → (∀ (prog : Program) (w : World) (A : Around) (E : Value → Shared → Prop) (h₀ : Heap) (L : Addr) (m : Str → Option Value) (env : Env) (elt : PySem.Expr) (iter : PySem.Expr) (a : Str) (b : Str) (pa : Pos) (pb : Pos) (tp : Pos) (kk : Nat) (scope : Scope) (cl : List (Str × Addr)) (pos : Pos) (s₂ : Shared) (e : Addr) (it : Addr) (l : Addr) (lo : Obj) (old : Value) (vs : List Value) (n : Nat) (news : List (Addr × Obj)) (J : Nat → List Value → Prop) (RR : Value → Addr → Result → Shared → Prop) (hh : A.handled = none) (hlm : (l, lo) ∈ news) (hlc : lo.cls = .type "list") (hld : lo.data = .seq vs.toArray n) (hsz : vs.length ≤ sizeLine) (hE : IsEnum s₂.heap e it ((0 : Nat) : Int) old) (hI : s₂.heap.IsListIter it l 0) (hei : e ≠ it) (he₀ : h₀.get? e = none) (hi₀ : h₀.get? it = none) (off : ∀ p ∈ news, p.1 ≠ e ∧ p.1 ≠ it) (hLe : L ≠ e) (hLi : L ≠ it) (hcell : ∀ y ∈ scope.names, y.2 ≠ .cell) (hkind : scope.kind = .function) (hxa : scope.names.lookup a = some .local) (hxb : scope.names.lookup b = some .local) (hab : ¬ a = b) (F : Fr h₀ L s₂.heap m) (N : News h₀ L s₂.heap news) (J0 : J 0 []) (turn : EnTurn prog w A h₀ L m env elt a b scope cl s₂ vs news J) (hRR : ∀ D C h tk m' ys, Fr h₀ L h m → News h₀ L h ((D, lst ys) :: news) → (∀ p ∈ news, p.1 ≠ D) → h.Ns C m' → h₀.get? C = none → h₀.get? D = none → C ≠ L → D ≠ L → C ≠ D → (∀ p ∈ news, p.1 ≠ C) → J vs.length ys → RR (.ref D) C (.ok .next) { s₂ with heap := h, toks := tk }),
    wpAny (model prog w) A (newList []) (fun acc s₃ => wpAny (model prog w) A (newFunctionEnv scope env.globals cl [] env.qual none .none (some env)) (fun cenv s₄ =>
      codeAny (model prog w) A (.compStart (.ListComp elt [⟨.Tuple [.Name a pa, .Name b pb] kk tp, iter, [], 0⟩] scope pos) 0 (.ref e) acc { cenv with scope := relabel scope env }) (RR acc cenv.locals) s₄) E s₃) E s₂) } :=
  ⟨_, fun HYP => by
  intro prog w A E h₀ L m env elt iter a b pa pb tp kk scope cl pos s₂ e it l lo old vs n news J RR hh hlm hlc hld hsz hE hI hei he₀ hi₀ off hLe hLi hcell hkind hxa hxb hab F N J0 turn hRR
  revert hRR; revert turn; revert J0; revert N; revert F; revert hab; revert hxb; revert hxa; revert hkind; revert hcell; revert hLi; revert hLe; revert off; revert hi₀; revert he₀; revert hei; revert hI; revert hE; revert hsz; revert hld; revert hlc; revert hlm; revert hh
  revert RR; revert J; revert news; revert n; revert vs; revert old; revert lo; revert l; revert it; revert e; revert s₂; revert pos; revert cl; revert scope; revert kk; revert tp; revert pb; revert pa; revert b; revert a; revert iter; revert elt; revert env; revert m; revert L; revert h₀; revert E; revert A; revert w; revert prog
  exact HYP⟩
noncomputable def en_blockz_B : Program × World × Around × (Value → Shared → Prop) × Heap × Addr × (Str → Option Value) × Env × PySem.Expr × PySem.Expr × Str × Str × Pos × Pos × Pos × Nat × Scope × (List (Str × Addr)) × Pos × Shared × Addr × Addr × Addr × Obj × Value × (List Value) × Nat × (List (Addr × Obj)) × (Nat → List Value → Prop) × (Value → Addr → Result → Shared → Prop) → Prop := fun v => en_blockz_in.1 v.1 v.2.1 v.2.2.1 v.2.2.2.1 v.2.2.2.2.1 v.2.2.2.2.2.1 v.2.2.2.2.2.2.1 v.2.2.2.2.2.2.2.1 v.2.2.2.2.2.2.2.2.1 v.2.2.2.2.2.2.2.2.2.1 v.2.2.2.2.2.2.2.2.2.2.1 v.2.2.2.2.2.2.2.2.2.2.2.1 v.2.2.2.2.2.2.2.2.2.2.2.2.1 v.2.2.2.2.2.2.2.2.2.2.2.2.2.1 v.2.2.2.2.2.2.2.2.2.2.2.2.2.2.1 v.2.2.2.2.2.2.2.2.2.2.2.2.2.2.2.1 v.2.2.2.2.2.2.2.2.2.2.2.2.2.2.2.2.1 v.2.2.2.2.2.2.2.2.2.2.2.2.2.2.2.2.2.1 v.2.2.2.2.2.2.2.2.2.2.2.2.2.2.2.2.2.2.1 v.2.2.2.2.2.2.2.2.2.2.2.2.2.2.2.2.2.2.2.1 v.2.2.2.2.2.2.2.2.2.2.2.2.2.2.2.2.2.2.2.2.1 v.2.2.2.2.2.2.2.2.2.2.2.2.2.2.2.2.2.2.2.2.2.1 v.2.2.2.2.2.2.2.2.2.2.2.2.2.2.2.2.2.2.2.2.2.2.1 v.2.2.2.2.2.2.2.2.2.2.2.2.2.2.2.2.2.2.2.2.2.2.2.1 v.2.2.2.2.2.2.2.2.2.2.2.2.2.2.2.2.2.2.2.2.2.2.2.2.1 v.2.2.2.2.2.2.2.2.2.2.2.2.2.2.2.2.2.2.2.2.2.2.2.2.2.1 v.2.2.2.2.2.2.2.2.2.2.2.2.2.2.2.2.2.2.2.2.2.2.2.2.2.2.1 v.2.2.2.2.2.2.2.2.2.2.2.2.2.2.2.2.2.2.2.2.2.2.2.2.2.2.2.1 v.2.2.2.2.2.2.2.2.2.2.2.2.2.2.2.2.2.2.2.2.2.2.2.2.2.2.2.2.1 v.2.2.2.2.2.2.2.2.2.2.2.2.2.2.2.2.2.2.2.2.2.2.2.2.2.2.2.2.2
noncomputable def en_blockz_v : Program × World × Around × (Value → Shared → Prop) × Heap × Addr × (Str → Option Value) × Env × PySem.Expr × PySem.Expr × Str × Str × Pos × Pos × Pos × Nat × Scope × (List (Str × Addr)) × Pos × Shared × Addr × Addr × Addr × Obj × Value × (List Value) × Nat × (List (Addr × Obj)) × (Nat → List Value → Prop) × (Value → Addr → Result → Shared → Prop) := Classical.choose (drink ⟨(default, Classical.choice neWorld, {}, default, default, default, default, default, default, default, default, default, default, default, default, default, default, default, default, {}, default, default, default, default, default, default, default, default, default, default)⟩ en_blockz_B)
theorem en_blockz_s : en_blockz_B en_blockz_v → ∀ v, en_blockz_B v := by
  with_unfolding_all exact Classical.choose_spec (drink ⟨(default, Classical.choice neWorld, {}, default, default, default, default, default, default, default, default, default, default, default, default, default, default, default, default, {}, default, default, default, default, default, default, default, default, default, default)⟩ en_blockz_B)
namespace en_blockzK
noncomputable def prog : Program := en_blockz_v.1
noncomputable def w : World := en_blockz_v.2.1
noncomputable def A : Around := en_blockz_v.2.2.1
noncomputable def E : Value → Shared → Prop := en_blockz_v.2.2.2.1
noncomputable def h₀ : Heap := en_blockz_v.2.2.2.2.1
noncomputable def L : Addr := en_blockz_v.2.2.2.2.2.1
noncomputable def m : Str → Option Value := en_blockz_v.2.2.2.2.2.2.1
noncomputable def env : Env := en_blockz_v.2.2.2.2.2.2.2.1
noncomputable def elt : PySem.Expr := en_blockz_v.2.2.2.2.2.2.2.2.1
noncomputable def iter : PySem.Expr := en_blockz_v.2.2.2.2.2.2.2.2.2.1
noncomputable def a : Str := en_blockz_v.2.2.2.2.2.2.2.2.2.2.1
noncomputable def b : Str := en_blockz_v.2.2.2.2.2.2.2.2.2.2.2.1
noncomputable def pa : Pos := en_blockz_v.2.2.2.2.2.2.2.2.2.2.2.2.1
noncomputable def pb : Pos := en_blockz_v.2.2.2.2.2.2.2.2.2.2.2.2.2.1
noncomputable def tp : Pos := en_blockz_v.2.2.2.2.2.2.2.2.2.2.2.2.2.2.1
noncomputable def kk : Nat := en_blockz_v.2.2.2.2.2.2.2.2.2.2.2.2.2.2.2.1
noncomputable def scope : Scope := en_blockz_v.2.2.2.2.2.2.2.2.2.2.2.2.2.2.2.2.1
noncomputable def cl : List (Str × Addr) := en_blockz_v.2.2.2.2.2.2.2.2.2.2.2.2.2.2.2.2.2.1
noncomputable def pos : Pos := en_blockz_v.2.2.2.2.2.2.2.2.2.2.2.2.2.2.2.2.2.2.1
noncomputable def s₂ : Shared := en_blockz_v.2.2.2.2.2.2.2.2.2.2.2.2.2.2.2.2.2.2.2.1
noncomputable def e : Addr := en_blockz_v.2.2.2.2.2.2.2.2.2.2.2.2.2.2.2.2.2.2.2.2.1
noncomputable def it : Addr := en_blockz_v.2.2.2.2.2.2.2.2.2.2.2.2.2.2.2.2.2.2.2.2.2.1
noncomputable def l : Addr := en_blockz_v.2.2.2.2.2.2.2.2.2.2.2.2.2.2.2.2.2.2.2.2.2.2.1
noncomputable def lo : Obj := en_blockz_v.2.2.2.2.2.2.2.2.2.2.2.2.2.2.2.2.2.2.2.2.2.2.2.1
noncomputable def old : Value := en_blockz_v.2.2.2.2.2.2.2.2.2.2.2.2.2.2.2.2.2.2.2.2.2.2.2.2.1
noncomputable def vs : List Value := en_blockz_v.2.2.2.2.2.2.2.2.2.2.2.2.2.2.2.2.2.2.2.2.2.2.2.2.2.1
noncomputable def n : Nat := en_blockz_v.2.2.2.2.2.2.2.2.2.2.2.2.2.2.2.2.2.2.2.2.2.2.2.2.2.2.1
noncomputable def news : List (Addr × Obj) := en_blockz_v.2.2.2.2.2.2.2.2.2.2.2.2.2.2.2.2.2.2.2.2.2.2.2.2.2.2.2.1
noncomputable def J : Nat → List Value → Prop := en_blockz_v.2.2.2.2.2.2.2.2.2.2.2.2.2.2.2.2.2.2.2.2.2.2.2.2.2.2.2.2.1
noncomputable def RR : Value → Addr → Result → Shared → Prop := en_blockz_v.2.2.2.2.2.2.2.2.2.2.2.2.2.2.2.2.2.2.2.2.2.2.2.2.2.2.2.2.2
end en_blockzK
open Mine.en_blockzK in
theorem en_blockz_c : en_blockz_in.1 prog w A E h₀ L m env elt iter a b pa pb tp kk scope cl pos s₂ e it l lo old vs n news J RR := by
  unfold en_blockz_in
  dsimp only
  intro hh hlm hlc hld hsz hE hI hei he₀ hi₀ off hLe hLi hcell hkind hxa hxb hab F N J0 turn hRR
  have hle : l ≠ e := (off _ hlm).1
  have hli : l ≠ it := (off _ hlm).2
  refine wpAny_newObj_type (wpAny_newFunctionEnv hcell (by intro y hy; simp at hy) (fun h₁ hns₁ hsb₁ => ?_) hkind)
  dsimp only at hns₁ hsb₁ ⊢
  generalize hH2 : s₂.heap.push { cls := .type "list", dict := none, data := .seq ([] : List Value).toArray } = H2 at hns₁ hsb₁ ⊢
  have hC : H2.objs.size = s₂.heap.objs.size + 1 := by rw [← hH2, Heap.size_push]
  have hDC : s₂.heap.objs.size ≠ H2.objs.size := by rw [hC]; exact Nat.ne_of_lt (Nat.lt_succ_self _)
  have below : ∀ b, b < s₂.heap.objs.size → b ≠ H2.objs.size ∧ b ≠ s₂.heap.objs.size := fun b hb => ⟨by rw [hC]; exact Nat.ne_of_lt (Nat.lt_succ_of_lt hb), Nat.ne_of_lt hb⟩
  have helt : e < s₂.heap.objs.size := Heap.lt_size hE
  have hilt : it < s₂.heap.objs.size := by obtain ⟨_, x, _⟩ := hI; exact Heap.lt_size x
  have oldk : ∀ b o, s₂.heap.get? b = some o → h₁.get? b = some o := fun b o e => hsb₁.extBut b o (below b (Heap.lt_size e)).1 (Heap.get?_push_of_some _ (hH2 ▸ Heap.get?_push_of_some _ e))
  have hacc : h₁.get? s₂.heap.objs.size = some (lst []) := hsb₁.extBut _ _ hDC (Heap.get?_push_of_some _ (hH2 ▸ Heap.get?_push_size _ rfl))
  have fresh : ∀ a, s₂.heap.objs.size ≤ a → s₂.heap.get? a = none := fun a ha => by
    cases e : s₂.heap.get? a with
    | none => rfl
    | some o' => exact absurd (Heap.lt_size e) (Nat.not_lt.mpr ha)
  have fresh₀ : ∀ a, s₂.heap.objs.size ≤ a → h₀.get? a = none := fun a ha => by
    cases e : h₀.get? a with
    | none => rfl
    | some o' => have := F.keep a o' e; rw [fresh a ha] at this; cases this
  have hD₀ : h₀.get? s₂.heap.objs.size = none := fresh₀ _ (Nat.le_refl _)
  have hC₀ : h₀.get? H2.objs.size = none := fresh₀ _ (by rw [hC]; exact Nat.le_succ _)
  have hLlt : L < s₂.heap.objs.size := F.ns.lt
  have hDL : s₂.heap.objs.size ≠ L := Ne.symm (below L hLlt).2
  have hCL : H2.objs.size ≠ L := Ne.symm (below L hLlt).1
  have hCe : e ≠ H2.objs.size := (below e helt).1
  have hDe : e ≠ s₂.heap.objs.size := (below e helt).2
  have hCi : it ≠ H2.objs.size := (below it hilt).1
  have hDi : it ≠ s₂.heap.objs.size := (below it hilt).2
  have offC : ∀ p ∈ news, p.1 ≠ H2.objs.size := fun p hp => (below _ (Heap.lt_size (N p hp).1)).1
  have offD : ∀ p ∈ news, p.1 ≠ s₂.heap.objs.size := fun p hp => (below _ (Heap.lt_size (N p hp).1)).2
  have W := WalksT.enumerate (prog := prog) (w := w) hh e it l hei hle hli vs.toArray
  have wrn : ∀ c, c ≠ e → c ≠ it → c ∉ [e, it] := fun c h1 h2 hc => by
    rcases List.mem_cons.mp hc with h | h
    · exact h1 h
    · exact h2 (List.mem_singleton.mp h)
  have loop : ∀ s₃ : Shared, s₃ = { s₂ with heap := h₁, toks := s₂.toks + ([] : List (Str × Value)).length } →
      codeAny (model prog w) A (.compLoop (.ListComp elt [⟨.Tuple [.Name a pa, .Name b pb] kk tp, iter, [], 0⟩] scope pos) 0 (.ref e) (.ref s₂.heap.objs.size) (compEnvC scope cl H2.objs.size env))
        (RR (.ref s₂.heap.objs.size) H2.objs.size) s₃ := by
    rintro s₃ rfl
    refine kcp_loop
      (fun k s' => ∃ h' tk i ys m', s' = { s₂ with heap := h', toks := tk } ∧ i ≤ vs.length ∧ k = vs.length + 1 - i ∧ ys.length = i ∧ (∃ old, IsEnum h' e it (i : Int) old) ∧ h'.IsListIter it l i ∧ Fr h₀ L h' m ∧ h'.Ns H2.objs.size m' ∧
        News h₀ L h' ((s₂.heap.objs.size, lst ys) :: news) ∧ J i ys) ?_ (vs.length + 1)
      ⟨h₁, _, 0, [], _, rfl, Nat.zero_le _, rfl, rfl, ⟨_, oldk _ _ hE⟩, hI.at fun o x => oldk _ _ x, F.keeps oldk, hns₁, fun p hp => ?_, J0⟩
    · rintro k s' ⟨h', tk, i, ys, m', rfl, hi, rfl, hyl, hE', hI', F', hn', N', J'⟩
      have hl' : h'.IsList l vs.toArray := ⟨lo, (N' _ (List.mem_cons_of_mem _ hlm)).1, hlc, n, hld⟩
      by_cases hlt : i < vs.length
      · refine W.item i _ _ _ (by simpa using hlt) ⟨hE', hI', hl'⟩ fun T vals h₂ tk₂ hP _ hT hMid hk₂ => ?_
        refine W.go _ _ _ i T _ _ _ hMid fun h₃ hst₃ hk₃ => ?_
        have hTw := W.apart i T _ hMid
        obtain ⟨t, x, hx, rfl⟩ := hP
        obtain ⟨oT, hoT, hTr⟩ := hT
        have hT₃ : h₃.IsTuple T #[.int i t, x] := ⟨oT, hk₃ T oT hTw hoT, hTr⟩
        have up₃ : ∀ c o, c ≠ e → c ≠ it → h'.get? c = some o → h₃.get? c = some o := fun c o h1 h2 q => hk₃ c o (wrn c h1 h2) (hk₂ c o (wrn c h1 h2) q)
        refine kcp_assign (env := compEnvC scope cl H2.objs.size env) hh hT₃ (lookup_relabel_local hxa) (lookup_relabel_local hxb) (by simp [compEnvC, relabel, hkind]) (hn'.at' fun o q => up₃ _ o (Ne.symm hCe) (Ne.symm hCi) q) fun h₄ tk₄ hn₄ hs₄ => ?_
        have up : ∀ c o, c ≠ e → c ≠ it → c ≠ H2.objs.size → h'.get? c = some o → h₄.get? c = some o := fun c o h1 h2 h3 q => hs₄ c o h3 (up₃ c o h1 h2 q)
        obtain ⟨⟨old', hE₃⟩, hI₃, _⟩ := hst₃
        have hE₄ : IsEnum h₄ e it ((i + 1 : Nat) : Int) old' := hs₄ e _ hCe hE₃
        have hI₄ : h₄.IsListIter it l (i + 1) := hI₃.at fun o q => hs₄ it o hCi q
        obtain ⟨oI, hoI, hIr⟩ := id hI₄
        obtain ⟨oC, heC, hoC⟩ := ns_obj hn₄
        have F₄ : Fr h₀ L h₄ m := ⟨F'.ns.at' fun o q => up _ o hLe hLi (Ne.symm hCL) q, fun c o q => up c o (fun z => by rw [z, he₀] at q; cases q) (fun z => by rw [z, hi₀] at q; cases q) (fun z => by rw [z, hC₀] at q; cases q) (F'.keep c o q), F'.above⟩
        have N₄ : News h₀ L h₄ ((e, _) :: (it, oI) :: (H2.objs.size, oC) :: (s₂.heap.objs.size, lst ys) :: news) := fun q hq => by
          rcases List.mem_cons.mp hq with rfl | hq
          · exact ⟨hE₄, Ne.symm hLe, he₀⟩
          · rcases List.mem_cons.mp hq with rfl | hq
            · exact ⟨hoI, Ne.symm hLi, hi₀⟩
            · rcases List.mem_cons.mp hq with rfl | hq
              · exact ⟨heC, hCL, hC₀⟩
              · have z := N' q hq
                rcases List.mem_cons.mp hq with rfl | hq
                · exact ⟨up _ _ (Ne.symm hDe) (Ne.symm hDi) hDC z.1, z.2⟩
                · exact ⟨up _ _ (off q hq).1 (off q hq).2 (offC q hq) z.1, z.2⟩
        refine wpAny_mono (turn i x ys t e _ it oI H2.objs.size oC s₂.heap.objs.size _ h₄ _ _ (by simpa using hx) J' hoC (by simp [hab]) (by simp) F₄ N₄) (fun y s₅ h₅ => ?_) fun _ _ q => q
        obtain ⟨h₅, tk₅, rfl, F₅, N₅, J₅⟩ := h₅
        have zE := (N₅ (e, _) List.mem_cons_self).1
        have zI := (N₅ (it, oI) (List.mem_cons_of_mem _ List.mem_cons_self)).1
        have zC := (N₅ (H2.objs.size, oC) (List.mem_cons_of_mem _ (List.mem_cons_of_mem _ List.mem_cons_self))).1
        have zD := (N₅ (s₂.heap.objs.size, lst ys) (List.mem_cons_of_mem _ (List.mem_cons_of_mem _ (List.mem_cons_of_mem _ List.mem_cons_self)))).1
        have N₅' : News h₀ L h₅ news := fun q hq => N₅ q (List.mem_cons_of_mem _ (List.mem_cons_of_mem _ (List.mem_cons_of_mem _ (List.mem_cons_of_mem _ hq))))
        refine append_at (hsz := by show ys.toArray.size ≤ sizeLine; rw [List.size_toArray, hyl]; exact Nat.le_trans hi hsz) zD fun h₆ hs₆ hD₆ => ?_
        refine ⟨vs.length + 1 - (i + 1), by omega, h₆, tk₅, i + 1, ys ++ [y], _, rfl, hlt, rfl, by rw [List.length_append, List.length_singleton, hyl], ⟨old', hs₆.extBut e _ hDe zE⟩, ⟨oI, hs₆.extBut it _ hDi zI, hIr⟩, F₅.change hs₆ hDL hD₀,
          (hoC.ns zC).sameBut hs₆ (Ne.symm hDC), fun q hq => ?_, J₅⟩
        rcases List.mem_cons.mp hq with rfl | hq
        · exact ⟨hD₆.trans (congrArg some (lst_snoc ys y)), hDL, hD₀⟩
        · exact ⟨hs₆.extBut _ _ (offD q hq) (N₅' q hq).1, (N₅' q hq).2⟩
      · have hin : i = vs.length := Nat.le_antisymm hi (Nat.not_lt.mp hlt)
        subst hin
        refine W.done _ _ _ (by rw [List.size_toArray]; exact ⟨hE', hI', hl'⟩) fun h₂ tk₂ hk₂ => ?_
        have kp : ∀ c o, c ≠ e → c ≠ it → h'.get? c = some o → h₂.get? c = some o := fun c o h1 h2 q => hk₂ c o (wrn c h1 h2) q
        refine hRR _ _ h₂ tk₂ _ ys ⟨F'.ns.at' fun o q => kp _ o hLe hLi q, fun c o q => kp c o (fun z => by rw [z, he₀] at q; cases q) (fun z => by rw [z, hi₀] at q; cases q) (F'.keep c o q), F'.above⟩ (fun q hq => ?_) offD (hn'.at' fun o q => kp _ o (Ne.symm hCe) (Ne.symm hCi) q) hC₀ hD₀ hCL hDL (Ne.symm hDC) offC J'
        have z := N' q hq
        rcases List.mem_cons.mp hq with rfl | hq
        · exact ⟨kp _ _ (Ne.symm hDe) (Ne.symm hDi) z.1, z.2⟩
        · exact ⟨kp _ _ (off q hq).1 (off q hq).2 z.1, z.2⟩
    · rcases List.mem_cons.mp hp with rfl | hp
      · exact ⟨hacc, hDL, hD₀⟩
      · exact ⟨oldk _ _ (N p hp).1, (N p hp).2⟩
  exact codeAny_compStart_list (loop _ rfl) (W.self 0 _ _ _ ⟨⟨_, oldk _ _ hE⟩, hI.at fun o x => oldk _ _ x, ⟨lo, oldk _ _ (N _ hlm).1, hlc, n, hld⟩⟩ (loop _ rfl))
section
variable {prog : Program} {w : World} {A : Around} {E : Value → Shared → Prop} {s : Shared} {h₀ : Heap} {L : Addr} {m : Str → Option Value} {env : Env}
theorem en_block {elt iter : PySem.Expr} {a b : Str} {pa pb tp : Pos} {kk : Nat} {scope : Scope} {cl : List (Str × Addr)} {pos : Pos} {s₂ : Shared} {e it l : Addr} {lo : Obj} {old : Value} {vs : List Value} {n : Nat} {news : List (Addr × Obj)}
    {J : Nat → List Value → Prop} {RR : Value → Addr → Result → Shared → Prop}
    (hh : A.handled = none) (hlm : (l, lo) ∈ news) (hlc : lo.cls = .type "list") (hld : lo.data = .seq vs.toArray n) (hsz : vs.length ≤ sizeLine)
    (hE : IsEnum s₂.heap e it ((0 : Nat) : Int) old) (hI : s₂.heap.IsListIter it l 0) (hei : e ≠ it) (he₀ : h₀.get? e = none) (hi₀ : h₀.get? it = none) (off : ∀ p ∈ news, p.1 ≠ e ∧ p.1 ≠ it) (hLe : L ≠ e) (hLi : L ≠ it)
    (hcell : ∀ y ∈ scope.names, y.2 ≠ .cell) (hkind : scope.kind = .function) (hxa : scope.names.lookup a = some .local) (hxb : scope.names.lookup b = some .local) (hab : ¬ a = b)
    (F : Fr h₀ L s₂.heap m) (N : News h₀ L s₂.heap news) (J0 : J 0 []) (turn : EnTurn prog w A h₀ L m env elt a b scope cl s₂ vs news J)
    (hRR : ∀ D C h tk m' ys, Fr h₀ L h m → News h₀ L h ((D, lst ys) :: news) → (∀ p ∈ news, p.1 ≠ D) → h.Ns C m' → h₀.get? C = none → h₀.get? D = none → C ≠ L → D ≠ L → C ≠ D → (∀ p ∈ news, p.1 ≠ C) → J vs.length ys → RR (.ref D) C (.ok .next) { s₂ with heap := h, toks := tk }) :
    wpAny (model prog w) A (newList []) (fun acc s₃ => wpAny (model prog w) A (newFunctionEnv scope env.globals cl [] env.qual none .none (some env)) (fun cenv s₄ =>
      codeAny (model prog w) A (.compStart (.ListComp elt [⟨.Tuple [.Name a pa, .Name b pb] kk tp, iter, [], 0⟩] scope pos) 0 (.ref e) acc { cenv with scope := relabel scope env }) (RR acc cenv.locals) s₄) E s₃) E s₂ :=
  (en_blockz_in.2 (fun prog w A E h₀ L m env elt iter a b pa pb tp kk scope cl pos s₂ e it l lo old vs n news J RR => en_blockz_s en_blockz_c (prog, w, A, E, h₀, L, m, env, elt, iter, a, b, pa, pb, tp, kk, scope, cl, pos, s₂, e, it, l, lo, old, vs, n, news, J, RR))) prog w A E h₀ L m env elt iter a b pa pb tp kk scope cl pos s₂ e it l lo old vs n news J RR hh hlm hlc hld hsz hE hI hei he₀ hi₀ off hLe hLi hcell hkind hxa hxb hab F N J0 turn hRR
noncomputable def EnSrc (prog : Program) (w : World) (A : Around) (h₀ : Heap) (L : Addr) (m : Str → Option Value) (env : Env) (elt : PySem.Expr) (a b : Str) (scope : Scope) (cl : List (Str × Addr)) (Fin : Shared → List Value → List (Addr × Obj) → Prop) (xv : Value) (s₁ : Shared) : Prop :=
  ∃ (e it l : Addr) (lo : Obj) (old : Value) (vs : List Value) (n : Nat) (news : List (Addr × Obj)) (J : Nat → List Value → Prop), xv = .ref e ∧ A.handled = none ∧ (l, lo) ∈ news ∧ lo.cls = .type "list" ∧ lo.data = .seq vs.toArray n ∧ vs.length ≤ sizeLine ∧
    IsEnum s₁.heap e it ((0 : Nat) : Int) old ∧ s₁.heap.IsListIter it l 0 ∧ e ≠ it ∧ h₀.get? e = none ∧ h₀.get? it = none ∧ (∀ p ∈ news, p.1 ≠ e ∧ p.1 ≠ it) ∧ L ≠ e ∧ L ≠ it ∧ Fr h₀ L s₁.heap m ∧ News h₀ L s₁.heap news ∧ J 0 [] ∧
    EnTurn prog w A h₀ L m env elt a b scope cl s₁ vs news J ∧ (∀ ys, J vs.length ys → Fin s₁ ys news)
theorem EnSrc.call {elt : PySem.Expr} {a b : Str} {scope : Scope} {cl : List (Str × Addr)} {Fin : Shared → List Value → List (Addr × Obj) → Prop} {l : Addr} {lo : Obj} {vs : List Value} {n : Nat} {news : List (Addr × Obj)} (J : Nat → List Value → Prop)
    (hh : A.handled = none) (F : Fr h₀ L s.heap m) (N : News h₀ L s.heap news) (hm : (l, lo) ∈ news) (hc : lo.cls = .type "list") (hd : lo.data = .seq vs.toArray n) (hsz : vs.length ≤ sizeLine) (J0 : J 0 [])
    (ht : ∀ g, EnTurn prog w A h₀ L m env elt a b scope cl { s with heap := g } vs news J) (hf : ∀ g ys, J vs.length ys → Fin { s with heap := g } ys news) :
    wpAny (model prog w) A (call (.type "enumerate") [.ref l]) (EnSrc prog w A h₀ L m env elt a b scope cl Fin) E s := by
  have hl : s.heap.IsList l vs.toArray := ⟨lo, (N _ hm).1, hc, n, hd⟩
  refine call_enumerate_list hl fun h' hE hI _ hk => ?_
  have fresh₀ : ∀ a, s.heap.objs.size ≤ a → h₀.get? a = none := fun a ha => by
    cases e : h₀.get? a with
    | none => rfl
    | some o' => exact absurd (Heap.lt_size (F.keep a o' e)) (Nat.not_lt.mpr ha)
  have hLlt : L < s.heap.objs.size := F.ns.lt
  exact ⟨s.heap.objs.size + 1, s.heap.objs.size, l, lo, _, vs, n, news, J, rfl, hh, hm, hc, hd, hsz, hE, hI, Nat.succ_ne_self _, fresh₀ _ (Nat.le_succ _), fresh₀ _ (Nat.le_refl _),
    fun p hp => ⟨Nat.ne_of_lt (Nat.lt_succ_of_lt (Heap.lt_size (N p hp).1)), Nat.ne_of_lt (Heap.lt_size (N p hp).1)⟩, Nat.ne_of_lt (Nat.lt_succ_of_lt hLlt), Nat.ne_of_lt hLlt, F.keeps hk, N.grown hk, J0, ht _, hf _⟩
theorem Assign_enum {elt iter : PySem.Expr} {a b y : Str} {pa pb tp py : Pos} {kk : Nat} {scope : Scope} {cl : List (Str × Addr)} {pos spos : Pos} {Q : Flow → Shared → Prop} (F₀ : Fr h₀ L s.heap m) (hLe : env.locals = L)
    (hsw : swapsWith (.ListComp elt [⟨.Tuple [.Name a pa, .Name b pb] kk tp, iter, [], 0⟩] scope pos) (some (.Name y py)) spos.line env = pure true)
    (hclos : closureFor scope env = pure cl) (hcell : ∀ z ∈ scope.names, z.2 ≠ .cell) (hkind : scope.kind = .function)
    (hnames : ∀ z ∈ scope.names, z.2 = .local → scope.names.lookup z.1 = some .local) (hxa : scope.names.lookup a = some .local) (hxb : scope.names.lookup b = some .local) (hab : ¬ a = b)
    (hy : env.kindOf y = some .local) (hp : (env.scope.kind == .class || (env.scope.kind == .module && env.locals != env.globals)) = false)
    (h : wpAny (model prog w) A (eval iter env) (EnSrc prog w A h₀ L m env elt a b scope cl (fun s₂ => FinA h₀ L m s₂ y Q)) E s)
    (hs : ∀ x, foldedSetIterable iter env x = pure x := by intro _; rfl) :
    wpAny (model prog w) A (exec (.Assign [.Name y py] (.ListComp elt [⟨.Tuple [.Name a pa, .Name b pb] kk tp, iter, [], 0⟩] scope pos) spos) env) Q E s := by
  subst hLe
  rw [exec_Assign_Name_used _ _ _ _ hsw]
  refine wpAny_bind (wpAny_standAt (wpAny_bind ?_))
  show wpAny _ A (do let _ ← comprehension (.ListComp elt [⟨.Tuple [.Name a pa, .Name b pb] kk tp, iter, [], 0⟩] scope pos) scope env _ (newList []) false (eval iter env) (some (assign (.Name y py) env))) _ _ s
  refine wpAny_bind (wpAny_mono (wpAny_comprehension_free (use := some (assign (.Name y py) env)) (Q := fun _ s' => Q .next s') rfl hs hclos hkind hnames
    (wpAny_mono h (fun xv s₁ h₁ => ?_) fun _ _ e => e)) (fun _ s' hq => wpAny_pure (wpAny_pure hq)) fun _ _ e => e)
  obtain ⟨e, it, l, lo, old, vs, n, news, J, rfl, hh, hlm, hlc, hld, hsz, hE, hI, hei, he₀, hi₀, off, hLe, hLi, F, N, J0, turn, fin⟩ := h₁
  refine wpAny_pyIter_enum hE ?_
  refine en_block hh hlm hlc hld hsz hE hI hei he₀ hi₀ off hLe hLi hcell hkind hxa hxb hab F N J0 turn ?_
  intro D C h' tk m' ys F' N' offD hn hC₀ hD₀ hCL hDL hCD offC hJ
  show wpAny _ A (assign (.Name y py) env (.ref D)) _ _ _
  refine wpAny_assign_Name (wpAny_storeName_local hy F'.ns (fun h₂ hn₂ hs₂ => ?_) hp)
  have hL₀ : h₀.get? env.locals = none := Heap.get?_none_of_le F'.above
  have F₂ : Fr h₀ env.locals h₂ (fun z => if z = y then some (.ref D) else m z) := ⟨hn₂, fun b o e => hs₂.extBut b o (fun q => by rw [q, hL₀] at e; cases e) (F'.keep b o e), F'.above⟩
  refine ⟨m', hn.sameBut hs₂ hCL, fun h'' hs'' => fin ys hJ D h'' _ (F₂.change hs'' hCL hC₀) (fun p hp => ?_) ?_⟩
  · have z : h₂.get? p.1 = some p.2 := hs₂.extBut _ _ (N' p hp).2.1 (N' p hp).1
    refine ⟨hs''.extBut _ _ ?_ z, (N' p hp).2⟩
    rcases List.mem_cons.mp hp with rfl | hp
    · exact Ne.symm hCD
    · exact offC p hp
  · exact off1_of offD
end
end Mine
end

section
open PySem PySem.W PyProof.Rows
set_option Elab.async false
set_option maxRecDepth 100000
set_option maxHeartbeats 8000000
namespace Mine
noncomputable def pickI (ns : List Int) (lo hi st : Option Int) : List Int :=
  (sliceRange (sliceBounds lo hi st ns.length).1 (sliceBounds lo hi st ns.length).2.1 (sliceBounds lo hi st ns.length).2.2).filterMap (ns[·]?)
theorem pick_ints {vs : List Value} {ns : List Int} (hi : IntsAre vs ns) : ∀ is : List Nat, IntsAre (is.filterMap (vs.toArray[·]?)) (is.filterMap (ns[·]?))
  | [] => .nil
  | i :: r => by
    have ih := pick_ints hi r
    rw [List.filterMap_cons, List.filterMap_cons]
    cases e : ns[i]? with
    | none =>
      have hl := hi.length
      have : vs.toArray[i]? = none := by
        rw [List.getElem?_eq_none_iff] at e
        simp; omega
      rw [this]; exact ih
    | some n =>
      obtain ⟨t, ht⟩ := hi.get i n e
      have : vs.toArray[i]? = some (.int n t) := by simpa using ht
      rw [this]; exact .cons _ _ ih
theorem pickI_len (ns : List Int) (lo hi st : Option Int) {vs : List Value} (h : IntsAre vs ns) : (pickI ns lo hi st).length ≤ ns.length := by
  have q := slicePick_size_le vs.toArray lo hi st
  have h2 := (pick_ints h (sliceRange (sliceBounds lo hi st ns.length).1 (sliceBounds lo hi st ns.length).2.1 (sliceBounds lo hi st ns.length).2.2)).length
  unfold pickI
  rw [← h2]
  unfold slicePick at q
  rw [List.size_toArray, List.size_toArray, h.length] at q
  exact q
section
variable {prog : Program} {w : World} {A : Around} {E : Value → Shared → Prop} {s : Shared} {h₀ : Heap} {L l : Addr} {m : Str → Option Value} {news : List (Addr × Obj)} {value slice : PySem.Expr} {vs : List Value} {ns : List Int} {vl vu vk : Value} {lo hi st : Option Int} {ops : List Value} {Q : Value → Shared → Prop}
theorem slice3_ints (F : Fr h₀ L s.heap m) (N : News h₀ L s.heap news) (hl : s.heap.IsList l vs.toArray) (pl : IsPart vl lo) (pu : IsPart vu hi) (pk : IsPart vk st) (h0 : st ≠ some 0) (hv : IntsAre vs ns)
    (h : ∀ D ws h', Fr h₀ L h' m → News h₀ L h' ((D, listOf (List.toArray ws) 0) :: news) → (∀ p ∈ news, p.1 < D) → IntsAre ws (pickI ns lo hi st) → Q (.ref D) { s with heap := h' })
    (hs : subscripted slice false (.ref l) (.ref s.heap.objs.size) = operate ops (getItem (.ref l) (.ref s.heap.objs.size))) (ht : ∀ r, letTemporaryGo value (.ref l) r = pure ()) (hz : ns.length ≤ sizeLine) :
    wpAny (model prog w) A (subscriptTail value slice (.ref l) (.ref s.heap.objs.size)) Q E { s with heap := s.heap.push { cls := .type "slice", data := .fields #[vl, vu, vk] } } := by
  refine kmk_slice3_lit (zs := (slicePick vs.toArray lo hi st).toList) F N hl pl pu pk h0 rfl (fun D h' F' N' l1 => h D _ h' F' N' l1 ?_) hs ht (by rw [List.size_toArray, hv.length]; exact hz)
  have := pick_ints hv (sliceRange (sliceBounds lo hi st ns.length).1 (sliceBounds lo hi st ns.length).2.1 (sliceBounds lo hi st ns.length).2.2)
  unfold pickI slicePick
  rw [List.size_toArray, hv.length]
  exact this
end
end Mine
end

section
open PySem PySem.W PyProof.Rows
set_option Elab.async false
set_option maxRecDepth 100000
set_option maxHeartbeats 8000000
namespace Mine
/-- the table: D c i j, c the cost of a change -/
noncomputable def D (c : Nat → Nat → Int) : Nat → Nat → Int
  | 0, j => 2 * (j : Int)
  | i + 1, 0 => 2 * ((i : Int) + 1)
  | i + 1, j + 1 => min (min (D c i j + c i j) (D c i (j + 1) + 2)) (D c (i + 1) j + 2)
termination_by i j => i + j
theorem D0 (c : Nat → Nat → Int) (j : Nat) : D c 0 j = 2 * (j : Int) := by rw [D]
theorem Di0 (c : Nat → Nat → Int) (i : Nat) : D c i 0 = 2 * (i : Int) := by
  cases i with
  | zero => rw [D]
  | succ i => rw [D]; lia
theorem Dss (c : Nat → Nat → Int) (i j : Nat) : D c (i + 1) (j + 1) = min (min (D c i j + c i j) (D c i (j + 1) + 2)) (D c (i + 1) j + 2) := by rw [D]
noncomputable abbrev Cst (c : Nat → Nat → Int) : Prop := ∀ i j, 0 ≤ c i j ∧ c i j ≤ 2
theorem D_up_j (c : Nat → Nat → Int) (i j : Nat) : D c i (j + 1) ≤ D c i j + 2 := by
  cases i with
  | zero => rw [D0, D0]; lia
  | succ i => rw [Dss]; lia
theorem D_up_i (c : Nat → Nat → Int) (i j : Nat) : D c (i + 1) j ≤ D c i j + 2 := by
  cases j with
  | zero => rw [Di0, Di0]; lia
  | succ j => rw [Dss]; lia
theorem D_dn_j {c : Nat → Nat → Int} (hc : Cst c) (i : Nat) : ∀ j, D c i j ≤ D c i (j + 1) + 2 := by
  induction i with
  | zero => intro j; rw [D0, D0]; lia
  | succ i ih =>
    intro j
    have h1 := D_up_i c i j
    have h2 := ih j
    have h3 := hc i j
    rw [Dss]; lia
theorem D_dn_i {c : Nat → Nat → Int} (hc : Cst c) (i : Nat) : ∀ j, D c i j ≤ D c (i + 1) j + 2 := by
  intro j
  induction j with
  | zero => rw [Di0, Di0]; lia
  | succ j ih =>
    have h1 := D_up_j c i j
    have h3 := hc i j
    rw [Dss]; lia
theorem D_last {c : Nat → Nat → Int} (hc : Cst c) {i j : Nat} (h : c i j = 0) : D c (i + 1) (j + 1) = D c i j := by
  have h1 := D_dn_j hc i j
  have h2 := D_dn_i hc i j
  rw [Dss]; lia
theorem D_first {c : Nat → Nat → Int} (hc : Cst c) (h : c 0 0 = 0) : ∀ n i j, i + j = n → D c (i + 1) (j + 1) = D (fun i j => c (i + 1) (j + 1)) i j := by
  intro n
  induction n using Nat.strongRecOn with
  | _ n ih =>
    intro i j hij
    cases i with
    | zero =>
      cases j with
      | zero => rw [Dss, D0, D0, D0, h, Di0]; lia
      | succ j =>
        have := ih (0 + j) (by lia) 0 j rfl
        have h2 := hc 0 (j + 1)
        rw [Dss, this, D0, D0, D0, D0]; lia
    | succ i =>
      cases j with
      | zero =>
        have := ih (i + 0) (by lia) i 0 rfl
        have h2 := hc (i + 1) 0
        rw [Dss, this, Di0, Di0, Di0, Di0]; lia
      | succ j => rw [Dss, ih (i + j) (by lia) i j rfl, ih (i + (j + 1)) (by lia) i (j + 1) rfl, ih (i + 1 + j) (by lia) (i + 1) j rfl, ← Dss]
theorem mnsw (x y z : Int) : min (min x y) z = min (min x z) y := by rw [Int.min_assoc, Int.min_comm y z, ← Int.min_assoc]
theorem lmin (a b : Int) : (if a < b then a else b) = min a b := by
  by_cases h : a < b
  · rw [if_pos h, Int.min_eq_left (Int.le_of_lt h)]
  · rw [if_neg h, Int.min_eq_right (Int.not_lt.mp h)]
theorem madd (y z : Int) : min y z + 2 = min (y + 2) (z + 2) := by
  rcases Int.le_total y z with h | h
  · rw [Int.min_eq_left h, Int.min_eq_left (Int.add_le_add_right h 2)]
  · rw [Int.min_eq_right h, Int.min_eq_right (Int.add_le_add_right h 2)]
theorem ifmin (x y z : Int) : (if x < (if y < z then y else z) + 2 then x else (if y < z then y else z) + 2) = min (min x (z + 2)) (y + 2) := by rw [lmin y z, lmin, madd, ← Int.min_assoc, mnsw]
theorem ifmin0 {j : Nat} {sc y : Int} (hc : 0 ≤ sc ∧ sc ≤ 2) : (if 2 * (j : Int) + sc < (if y < 2 * (j : Int) then y else 2 * (j : Int)) + 2 then 2 * (j : Int) + sc else (if y < 2 * (j : Int) then y else 2 * (j : Int)) + 2) = min (min (2 * (j : Int) + sc) (2 * ((j + 1 : Nat) : Int) + 2)) (y + 2) := by
  rw [ifmin, Int.min_eq_left (a := 2 * (j : Int) + sc) (b := 2 * (j : Int) + 2) (by omega), Int.min_eq_left (a := 2 * (j : Int) + sc) (b := 2 * ((j + 1 : Nat) : Int) + 2) (by omega)]
theorem D_swap (c : Nat → Nat → Int) : ∀ n i j, i + j = n → D c i j = D (fun i j => c j i) j i := by
  intro n
  induction n using Nat.strongRecOn with
  | _ n ih =>
    intro i j hij
    cases i with
    | zero => rw [D0, Di0]
    | succ i => cases j with
      | zero => rw [D0, Di0]
      | succ j =>
        rw [Dss, Dss, ih (i + j) (by lia) i j rfl, ih (i + (j + 1)) (by lia) i (j + 1) rfl, ih (i + 1 + j) (by lia) (i + 1) j rfl]
        first | exact mnsw _ _ _ | lia
theorem D_ge {c : Nat → Nat → Int} (hc : Cst c) : ∀ n i j : Nat, i + j = n → 2 * ((j : Int) - (i : Int)) ≤ D c i j := by
  intro n
  induction n using Nat.strongRecOn with
  | _ n ih =>
    intro i j hij
    cases i with
    | zero => rw [D0]; lia
    | succ i => cases j with
      | zero => rw [Di0]; lia
      | succ j =>
        have h1 := ih (i + j) (by lia) i j rfl
        have h2 := ih (i + (j + 1)) (by lia) i (j + 1) rfl
        have h3 := ih (i + 1 + j) (by lia) (i + 1) j rfl
        have h4 := hc i j
        rw [Dss]; lia
theorem D_congr {c c' : Nat → Nat → Int} : ∀ n i j, i + j = n → (∀ a b, a < i → b < j → c a b = c' a b) → D c i j = D c' i j := by
  intro n
  induction n using Nat.strongRecOn with
  | _ n ih =>
    intro i j hij h
    cases i with
    | zero => rw [D0, D0]
    | succ i => cases j with
      | zero => rw [Di0, Di0]
      | succ j =>
        rw [Dss, Dss, ih (i + j) (by lia) i j rfl fun a b ha hb => h a b (by lia) (by lia), ih (i + (j + 1)) (by lia) i (j + 1) rfl fun a b ha hb => h a b (by lia) (by lia),
          ih (i + 1 + j) (by lia) (i + 1) j rfl fun a b ha hb => h a b (by lia) (by lia), h i j (by lia) (by lia)]
theorem D_one {c : Nat → Nat → Int} (hc : Cst c) (j : Nat) : D c 1 (j + 1) ≤ 2 * ((j : Int) + 1) := by
  have := hc 0 j
  rw [Dss, D0]; lia
theorem D_row_back {c : Nat → Nat → Int} (hc : Cst c) {X : Int} {j : Nat} : ∀ i, D c (i + 1) (j + 1 + 1) ≤ X → ∃ i', i' ≤ i ∧ D c (i' + 1) (j + 1) ≤ X := by
  intro i
  induction i with
  | zero =>
    intro h
    refine ⟨0, Nat.le_refl _, ?_⟩
    have h1 := D_one hc j
    have h2 := hc 0 (j + 1)
    rw [Dss, D0, D0] at h
    rw [show (0 + 1 : Nat) = 1 from rfl] at h ⊢
    lia
  | succ i ih =>
    intro h
    rw [Dss] at h
    have h2 := hc (i + 1) (j + 1)
    by_cases a : D c (i + 1) (j + 1) ≤ X
    · exact ⟨i, by lia, a⟩
    · by_cases b : D c (i + 1 + 1) (j + 1) ≤ X
      · exact ⟨i + 1, by lia, b⟩
      · obtain ⟨i', h1, h3⟩ := ih (by lia)
        exact ⟨i', by lia, h3⟩
theorem D_row {c : Nat → Nat → Int} (hc : Cst c) {X : Int} {n m : Nat} (h : D c (n + 1) m ≤ X) : ∀ k j, j + 1 + k = m → ∃ i, i ≤ n ∧ D c (i + 1) (j + 1) ≤ X := by
  intro k
  induction k with
  | zero => intro j hj; exact ⟨n, Nat.le_refl _, by rw [show j + 1 = m from by lia]; exact h⟩
  | succ k ih =>
    intro j hj
    obtain ⟨i, hi, hx⟩ := ih (j + 1) (by lia)
    obtain ⟨i', h1, h2⟩ := D_row_back hc i hx
    exact ⟨i', by lia, h2⟩
/-- of two texts -/
noncomputable abbrev cL (a b : List Nat) (i j : Nat) : Int := scost (a.getD i 0) (b.getD j 0)
theorem scost_b (c d : Nat) : 0 ≤ scost c d ∧ scost c d ≤ 2 := by unfold scost; split <;> (try split) <;> lia
theorem scost_s (c d : Nat) : scost c d = scost d c := by
  unfold scost
  by_cases h : c = d
  · subst h; rfl
  · by_cases h2 : lo1 c = lo1 d
    · rw [if_neg h, if_neg (Ne.symm h), if_pos h2, if_pos h2.symm]
    · rw [if_neg h, if_neg (Ne.symm h), if_neg h2, if_neg (Ne.symm h2)]
theorem cL_b (a b : List Nat) : Cst (cL a b) := fun _ _ => scost_b _ _
noncomputable def Dl (a b : List Nat) : Int := D (cL a b) a.length b.length
theorem Dl_cons (x : Nat) (a b : List Nat) : Dl (x :: a) (x :: b) = Dl a b := by
  unfold Dl
  rw [List.length_cons, List.length_cons, D_first (cL_b _ _) (by simp [cL, scost]) _ _ _ rfl]
  rfl
theorem Dl_snoc (x : Nat) (a b : List Nat) : Dl (a ++ [x]) (b ++ [x]) = Dl a b := by
  unfold Dl
  rw [List.length_append, List.length_append, List.length_singleton, D_last (cL_b _ _) (by simp [cL, scost, List.getD])]
  refine D_congr _ _ _ rfl fun i j hi hj => ?_
  simp [cL, List.getD, hi, hj, List.getElem?_append_left]
theorem Dl_pfx : ∀ a b : List Nat, Dl (pfx a b).1 (pfx a b).2 = Dl a b
  | [], b => by rw [pfx_nil_l]
  | x :: a, [] => by rw [pfx_nil_r]
  | x :: a, y :: b => by
    rw [pfx]
    by_cases h : x = y
    · rw [if_pos h, Dl_pfx a b, h, Dl_cons]
    · rw [if_neg h]
theorem Dl_rev : ∀ a b : List Nat, Dl (pfx a b).1.reverse (pfx a b).2.reverse = Dl a.reverse b.reverse
  | [], b => by rw [pfx_nil_l]
  | x :: a, [] => by rw [pfx_nil_r]
  | x :: a, y :: b => by
    rw [pfx]
    by_cases h : x = y
    · rw [if_pos h, Dl_rev a b, h, List.reverse_cons, List.reverse_cons, Dl_snoc]
    · rw [if_neg h]
theorem Dl_sfx (a b : List Nat) : Dl (sfx a b).1 (sfx a b).2 = Dl a b := by
  unfold sfx
  rw [Dl_rev, List.reverse_reverse, List.reverse_reverse]
theorem Dl_swap (a b : List Nat) : Dl a b = Dl b a := by
  unfold Dl
  rw [D_swap _ _ _ _ rfl]
  refine D_congr _ _ _ rfl fun i j _ _ => scost_s _ _
/-- the rows -/
theorem stAt_is {a b : List Nat} {j : Nat} {row : List Int} (hl : row.length = a.length) (hr : ∀ i, i < a.length → row.getD i 0 = D (cL a b) (i + 1) j) :
    ∀ k, k ≤ a.length → (∀ i, i < k → (stAt (b.getD j 0) a row ((j : Int) * 2) k).1.getD i 0 = D (cL a b) (i + 1) (j + 1)) ∧ (∀ i, k ≤ i → (stAt (b.getD j 0) a row ((j : Int) * 2) k).1.getD i 0 = row.getD i 0) ∧
      (stAt (b.getD j 0) a row ((j : Int) * 2) k).2.1 = D (cL a b) k j ∧ ((stAt (b.getD j 0) a row ((j : Int) * 2) k).2.2.1 = if k = 0 then 2 * (j : Int) else D (cL a b) k (j + 1)) ∧ (∀ i, i < k → (stAt (b.getD j 0) a row ((j : Int) * 2) k).2.2.2 ≤ D (cL a b) (i + 1) (j + 1)) := by
  intro k
  induction k with
  | zero =>
    intro _
    refine ⟨fun i h => absurd h (Nat.not_lt_zero _), fun i _ => rfl, ?_, ?_, fun i h => absurd h (Nat.not_lt_zero _)⟩
    · rw [D0]; show (j : Int) * 2 = _; lia
    · rw [if_pos rfl]; show (j : Int) * 2 = _; lia
  | succ k ih =>
    intro hk
    obtain ⟨h1, h2, h3, h4, h5⟩ := ih (by lia)
    rw [stAt_succ]
    have hlen := stAt_len (b.getD j 0) a row ((j : Int) * 2) k
    generalize stAt (b.getD j 0) a row ((j : Int) * 2) k = st at *
    have e1 : st.1.getD k 0 = D (cL a b) (k + 1) j := by rw [h2 k (Nat.le_refl _), hr k (by lia)]
    have key : (if st.2.1 + scost (b.getD j 0) (a.getD k 0) < (if st.1.getD k 0 < st.2.2.1 then st.1.getD k 0 else st.2.2.1) + 2 then st.2.1 + scost (b.getD j 0) (a.getD k 0) else (if st.1.getD k 0 < st.2.2.1 then st.1.getD k 0 else st.2.2.1) + 2) = D (cL a b) (k + 1) (j + 1) := by
      rw [Dss, e1, h3, h4, scost_s]
      have hc := scost_b (a.getD k 0) (b.getD j 0)
      show _ = min (min (_ + scost (a.getD k 0) (b.getD j 0)) _) _
      cases k with
      | zero => rw [if_pos rfl, D0, D0]; exact ifmin0 hc
      | succ k => rw [if_neg (Nat.succ_ne_zero k)]; exact ifmin _ _ _
    unfold istep
    simp only [key]
    simp only [e1]
    refine ⟨fun i hi => ?_, fun i hi => ?_, trivial, ?_, fun i hi => ?_⟩
    · by_cases e : i = k
      · subst e
        rw [List.getD, List.getElem?_set_self (by lia)]; rfl
      · rw [List.getD, List.getElem?_set_ne (Ne.symm e)]
        exact h1 i (by lia)
    · rw [List.getD, List.getElem?_set_ne (by lia)]
      exact h2 i (by lia)
    · rw [if_neg (Nat.succ_ne_zero k)]
    · by_cases e : i = k
      · subst e; split <;> lia
      · have := h5 i (by lia)
        split <;> lia
theorem outer_is {a b : List Nat} {mc : Int} {n : Nat} (hn : a.length = n + 1) (hD : Dl a b ≤ mc) : ∀ f j (row : List Int) (res : Int), j + f = b.length → row.length = a.length → (∀ i, i < a.length → row.getD i 0 = D (cL a b) (i + 1) j) →
    (f = 0 → res = Dl a b) → outer a b mc f j row res = Dl a b := by
  intro f
  induction f with
  | zero => intro j row res _ _ _ h; rw [outer]; exact h rfl
  | succ f ih =>
    intro j row res hj hl hr _
    rw [outer]
    obtain ⟨h1, h2, h3, h4, h5⟩ := stAt_is hl hr a.length (Nat.le_refl _)
    have hlen := stAt_len (b.getD j 0) a row ((j : Int) * 2) a.length
    rw [← inner_eq] at h1 h2 h3 h4 h5 hlen
    have hle : ¬ (inner (b.getD j 0) a row ((j : Int) * 2)).2.2.2 > mc := by
      have : D (cL a b) (n + 1) b.length ≤ mc := by rw [← hn]; exact hD
      obtain ⟨i, hi, hx⟩ := D_row (cL_b a b) this f j (by lia)
      have := h5 i (by lia)
      lia
    simp only [hle, if_false]
    refine ih (j + 1) _ _ (by lia) (by rw [hlen, hl]) (fun i hi => h1 i hi) fun e => ?_
    rw [h4, if_neg (by lia)]
    unfold Dl
    rw [show j + 1 = b.length from by lia]
theorem row0_is {a b : List Nat} (i : Nat) (hi : i < a.length) : (row0 a).getD i 0 = D (cL a b) (i + 1) 0 := by
  rw [Di0]
  simp [row0, List.getD, hi]
  lia
theorem dp_is {a b : List Nat} {mc : Int} {n : Nat} (hn : a.length = n + 1) (hb : 0 < b.length) (hD : Dl a b ≤ mc) : dp a b mc = Dl a b := by
  have h := D_ge (cL_b a b) _ a.length b.length rfl
  rw [dp_under]
  · refine outer_is hn hD _ _ _ _ (by lia) (by simp [row0]) row0_is fun e => by lia
  · rw [S_len, S_len]
    unfold Dl at hD
    lia
theorem levC_is {a b : List Nat} {mc : Int} (hD : Dl a b ≤ mc) : levC a b mc = Dl a b := by
  unfold levC
  split
  · rename_i h
    unfold Dl
    rcases h with rfl | rfl
    · rw [List.length_nil, D0]; simp
    · rw [List.length_nil, Di0]; simp
  · rename_i h
    have ha : a ≠ [] := fun e => h (.inl e)
    have hb : b ≠ [] := fun e => h (.inr e)
    have ha := List.length_pos_iff.mpr ha
    have hb := List.length_pos_iff.mpr hb
    split
    · rw [Dl_swap] at hD ⊢
      exact dp_is (n := b.length - 1) (by lia) ha hD
    · exact dp_is (n := a.length - 1) (by lia) hb hD
theorem Dl_self : ∀ a : List Nat, Dl a a = 0
  | [] => by unfold Dl; rw [List.length_nil, D0]; rfl
  | x :: a => by rw [Dl_cons, Dl_self a]
theorem lev_is {a b : List Nat} {mc : Int} (hD : Dl a b ≤ mc) : lev a b mc = Dl a b := by
  unfold lev
  split
  · rename_i h; subst h; rw [Dl_self]
  · unfold levB
    rw [levC_is (by rw [Dl_sfx, Dl_pfx]; exact hD), Dl_sfx, Dl_pfx]
end Mine
end

section
open PySem PySem.W PyProof.Rows
set_option Elab.async false
set_option maxRecDepth 100000
set_option maxHeartbeats 8000000
namespace Mine
noncomputable abbrev cP (sn ln : List Int) (i j : Nat) : Int := pc (sn.getD i 0) (ln.getD j 0)
theorem min3_min (a b c : Int) : min3 a b c = min (min a b) c := by
  unfold min3
  by_cases h : b < a
  · rw [if_pos h, Int.min_eq_right (Int.le_of_lt h), lmin, Int.min_comm]
  · rw [if_neg h, Int.min_eq_left (Int.not_lt.mp h), lmin, Int.min_comm]
theorem ncast (x y : Nat) : ((min x y : Nat) : Int) = min (x : Int) (y : Int) := by
  rcases Nat.le_total x y with h | h
  · rw [Nat.min_eq_left h, Int.min_eq_left (Int.ofNat_le.mpr h)]
  · rw [Nat.min_eq_right h, Int.min_eq_right (Int.ofNat_le.mpr h)]
theorem nmin (d fk r u : Nat) : ((min (d + fk) (min r u + 2) : Nat) : Int) = min (min ((d : Int) + (fk : Int)) ((r : Int) + 2)) ((u : Int) + 2) := by
  rw [ncast, show ((min r u + 2 : Nat) : Int) = ((min r u : Nat) : Int) + 2 from rfl, ncast, madd, ← Int.min_assoc]
  rfl
theorem mrev (x y z : Int) : min (min z y) x = min (min x y) z := by rw [Int.min_comm, Int.min_comm z y, ← Int.min_assoc]
theorem pin_is {sn ln row : List Int} {i : Nat} (hr : ∀ j, j ≤ ln.length → row.getD j 0 = D (cP sn ln) i j) :
    ∀ k, k ≤ ln.length → ∀ j, j ≤ k → (pinAt (sn.getD i 0) ln row k).getD j 0 = D (cP sn ln) (i + 1) j := by
  intro k
  induction k with
  | zero =>
    intro _ j hj
    obtain rfl : j = 0 := by lia
    rw [Di0]
    show row.getD 0 0 + 2 = _
    rw [hr 0 (Nat.zero_le _), Di0]; lia
  | succ k ih =>
    intro hk j hj
    have h := ih (by lia)
    have hl := pinAt_len (sn.getD i 0) ln row k
    rw [pinAt_succ, pin]
    generalize pinAt (sn.getD i 0) ln row k = u at *
    by_cases e : j = k + 1
    · subst e
      rw [List.getD, List.getElem?_append_right (by lia), hl, Nat.sub_self]
      show min3 _ _ _ = _
      rw [h k (Nat.le_refl _), hr k (by lia), hr (k + 1) hk, Dss]
      show _ = min (min (_ + pc (sn.getD i 0) (ln.getD k 0)) _) _
      rw [min3_min]
      all_goals first | exact mrev _ _ _ | exact mnsw _ _ _ | lia
    · rw [List.getD, List.getElem?_append_left (by lia)]
      exact h j (by lia)
theorem prow0_is {sn ln : List Int} (j : Nat) (hj : j ≤ ln.length) : (prow0 ln.length).getD j 0 = D (cP sn ln) 0 j := by
  rw [D0]
  have : j < ln.length + 1 := by lia
  simp [prow0, List.getD, this]
theorem lastD_is {l : List Int} {n : Nat} (h : l.length = n + 1) : lastD l = l.getD n 0 := by
  unfold lastD
  rw [show (-1 + (l.length : Int)).toNat = n from by lia]
theorem pstAt_is (sn ln : List Int) : ∀ i, i ≤ sn.length → (∀ j, j ≤ ln.length → (pstAt sn ln i).1.getD j 0 = D (cP sn ln) i j) ∧ (pstAt sn ln i).2 = (List.range (i + 1)).map fun k => D (cP sn ln) k ln.length := by
  intro i
  induction i with
  | zero =>
    intro _
    refine ⟨prow0_is, ?_⟩
    show [lastD (prow0 ln.length)] = _
    rw [lastD_is (n := ln.length) (by simp [prow0]), prow0_is (sn := sn) _ (Nat.le_refl _)]
    rfl
  | succ i ih =>
    intro hi
    obtain ⟨h1, h2⟩ := ih (by lia)
    have hk : sn[i]? = some (sn.getD i 0) := by
      rw [List.getD, List.getElem?_eq_getElem (by lia)]; rfl
    have hp := pin_is h1 ln.length (Nat.le_refl _)
    rw [pstAt_succ hk, pst]
    refine ⟨hp, ?_⟩
    show _ ++ _ = _
    rw [h2, List.range_succ (n := i + 1), List.map_append, lastD_is (pinAt_len _ _ _ _), hp _ (Nat.le_refl _)]
    rfl
theorem prices_is (sn ln : List Int) : prices sn ln = (List.range (sn.length + 1)).map fun k => D (cP sn ln) k ln.length := by
  have := (pstAt_is sn ln sn.length (Nat.le_refl _)).2
  unfold pstAt at this
  rw [List.take_length] at this
  exact this
/-- the small table, in naturals -/
noncomputable def nrow (c : Nat → Nat) : List Nat → Nat → List Nat → Nat → List Nat
  | [], _, _, _ => []
  | _ :: _, _, [], _ => []
  | k :: ks, d, r :: rs, u => (min (d + c k) (min r u + 2)) :: nrow c ks r rs (min (d + c k) (min r u + 2))
noncomputable def ncol : Nat → List Nat → List Nat
  | _, [] => []
  | j, _ :: l => (2 * (j + 1)) :: ncol (j + 1) l
noncomputable def kc (b : Bool) (k : Nat) : Nat := cond b (k / 3) (k % 3)
/-- the row behind the letters of bs -/
noncomputable def nrun (ks : List Nat) : List Bool → Nat → List Nat → List Nat
  | [], _, row => row
  | b :: bs, i, row => nrun ks bs (i + 1) (nrow (kc b) ks (2 * i) row (2 * (i + 1)))
noncomputable def conv : List Nat → List Nat → List Nat → List Nat → Bool
  | a :: as, b :: bs, c :: cs, d :: ds => Nat.ble (b + b) (a + c) && (Nat.ble (c + c) (b + d) && conv as bs cs ds)
  | _, _, _, _ => true
noncomputable def check1 (ks : List Nat) : Bool :=
  let r0 := ncol 0 ks
  let r1 := nrow (kc true) ks 0 r0 2
  let r2 := nrow (kc true) ks 2 r1 4
  let r3 := nrow (kc true) ks 4 r2 6
  conv r0 r1 r2 r3
noncomputable def check2 (ks : List Nat) : Bool :=
  let r0 := ncol 0 ks
  let r1 := nrow (kc true) ks 0 r0 2
  let r2 := nrow (kc false) ks 2 r1 4
  let r3 := nrow (kc true) ks 4 r2 6
  let r4 := nrow (kc false) ks 6 r3 8
  let r5 := nrow (kc true) ks 8 r4 10
  let r6 := nrow (kc false) ks 10 r5 12
  conv r0 r2 r4 r6
noncomputable def over (A : List Nat) : Nat → List (List Nat)
  | 0 => [[]]
  | n + 1 => (over A n).flatMap fun l => A.map (· :: l)
theorem ch1 (n : Nat) (hn : n = 2 ∨ n = 3 ∨ n = 4) : (over [0, 4, 8] n).all check1 = true := by rcases hn with rfl | rfl | rfl <;> decide +kernel
theorem ch2 (n : Nat) (hn : n = 2 ∨ n = 3 ∨ n = 4) : (over [0, 4, 8] n).all check2 = true := by rcases hn with rfl | rfl | rfl <;> decide +kernel
theorem ch3 (n : Nat) (hn : n = 2 ∨ n = 3 ∨ n = 4) : (over [1, 3, 8] n).all check2 = true := by rcases hn with rfl | rfl | rfl <;> decide +kernel
theorem ch4 (n : Nat) (hn : n = 2 ∨ n = 3 ∨ n = 4) : (over [2, 5, 6, 7] n).all check2 = true := by rcases hn with rfl | rfl | rfl <;> decide +kernel
theorem over_mem {A : List Nat} : ∀ {l : List Nat}, (∀ k ∈ l, k ∈ A) → l ∈ over A l.length
  | [], _ => List.mem_singleton.mpr rfl
  | k :: l, h => List.mem_flatMap.mpr ⟨l, over_mem fun x hx => h x (.tail _ hx), List.mem_map.mpr ⟨k, h k (.head _), rfl⟩⟩
theorem nrow_is {c : Nat → Nat → Int} {f : Nat → Nat} {i : Nat} : ∀ (ks : List Nat) (j d : Nat) (rs : List Nat) (u : Nat), (∀ t, t < ks.length → c i (j + t) = (f (ks.getD t 0) : Nat)) → (d : Int) = D c i j → rs.length = ks.length →
    (∀ t, t < ks.length → ((rs.getD t 0 : Nat) : Int) = D c i (j + 1 + t)) → (u : Int) = D c (i + 1) j →
    (nrow f ks d rs u).length = ks.length ∧ ∀ t, t < ks.length → (((nrow f ks d rs u).getD t 0 : Nat) : Int) = D c (i + 1) (j + 1 + t)
  | [], j, d, rs, u, _, _, _, _, _ => ⟨rfl, fun t ht => absurd ht (Nat.not_lt_zero _)⟩
  | k :: ks, j, d, [], u, _, _, hl, _, _ => by simp at hl
  | k :: ks, j, d, r :: rs, u, hc, hd, hl, hr, hu => by
    have h0 := hc 0 (by simp)
    have r0 := hr 0 (by simp)
    have e0 : ((min (d + f k) (min r u + 2) : Nat) : Int) = D c (i + 1) (j + 1) := by
      simp only [Nat.add_zero, List.getD_cons_zero] at h0 r0
      rw [Dss, h0, ← hd, ← r0, ← hu]
      exact nmin _ _ _ _
    have ih := nrow_is (c := c) (f := f) (i := i) ks (j + 1) r rs (min (d + f k) (min r u + 2)) (fun t ht => by
      have := hc (t + 1) (by simp; lia)
      rw [show j + 1 + t = j + (t + 1) from by lia, this]; rfl) (by simpa using r0) (by simpa using hl) (fun t ht => by
      have := hr (t + 1) (by simp; lia)
      rw [show j + 1 + 1 + t = j + 1 + (t + 1) from by lia, ← this]; rfl) e0
    unfold nrow
    refine ⟨by simp [ih.1], fun t ht => ?_⟩
    cases t with
    | zero => exact e0
    | succ t =>
      have := ih.2 t (by simpa using ht)
      rw [show j + 1 + (t + 1) = j + 1 + 1 + t from by lia, ← this]; rfl
noncomputable def Row (c : Nat → Nat → Int) (n i : Nat) (r : List Nat) : Prop := r.length = n ∧ ∀ t, t < n → ((r.getD t 0 : Nat) : Int) = D c i (t + 1)
theorem Row.step {c : Nat → Nat → Int} {f : Nat → Nat} {n i : Nat} {r ks : List Nat} (h : Row c n i r) (hn : ks.length = n) (hc : ∀ t, t < n → c i t = (f (ks.getD t 0) : Nat)) : Row c n (i + 1) (nrow f ks (2 * i) r (2 * (i + 1))) := by
  subst hn
  have := nrow_is (c := c) (f := f) (i := i) ks 0 (2 * i) r (2 * (i + 1)) (fun t ht => by rw [Nat.zero_add]; exact hc t ht) (by rw [Di0]; lia) h.1 (fun t ht => by rw [show 0 + 1 + t = t + 1 from by lia]; exact h.2 t ht) (by rw [Di0]; lia)
  refine ⟨this.1, fun t ht => ?_⟩
  rw [this.2 t ht, show 0 + 1 + t = t + 1 from by lia]
theorem ncol_is (c : Nat → Nat → Int) : ∀ (ks : List Nat) (j : Nat), (ncol j ks).length = ks.length ∧ ∀ t, t < ks.length → (((ncol j ks).getD t 0 : Nat) : Int) = D c 0 (j + 1 + t)
  | [], j => ⟨rfl, fun t ht => absurd ht (Nat.not_lt_zero _)⟩
  | k :: ks, j => by
    have ih := ncol_is c ks (j + 1)
    unfold ncol
    refine ⟨by simp [ih.1], fun t ht => ?_⟩
    cases t with
    | zero => rw [D0]; simp
    | succ t =>
      have := ih.2 t (by simpa using ht)
      rw [show j + 1 + (t + 1) = j + 1 + 1 + t from by lia, ← this]; rfl
theorem Row.zero (c : Nat → Nat → Int) {ks : List Nat} {n : Nat} (hn : ks.length = n) : Row c n 0 (ncol 0 ks) := by
  subst hn
  have := ncol_is c ks 0
  refine ⟨this.1, fun t ht => ?_⟩
  rw [this.2 t ht, show 0 + 1 + t = t + 1 from by lia]
theorem conv_is : ∀ {as bs cs ds : List Nat}, conv as bs cs ds = true → ∀ {n : Nat}, as.length = n → bs.length = n → cs.length = n → ds.length = n → ∀ t, t < n → bs.getD t 0 + bs.getD t 0 ≤ as.getD t 0 + cs.getD t 0 ∧ cs.getD t 0 + cs.getD t 0 ≤ bs.getD t 0 + ds.getD t 0
  | [], _, _, _, _, n, h1, _, _, _, t, ht => by simp at h1; lia
  | _ :: _, [], _, _, _, n, _, h1, _, _, t, ht => by simp at h1; lia
  | _ :: _, _ :: _, [], _, _, n, _, _, h1, _, t, ht => by simp at h1; lia
  | _ :: _, _ :: _, _ :: _, [], _, n, _, _, _, h1, t, ht => by simp at h1; lia
  | a :: as, b :: bs, c :: cs, d :: ds, h, n, h1, h2, h3, h4, t, ht => by
    unfold conv at h
    rw [Bool.and_eq_true, Bool.and_eq_true] at h
    cases t with
    | zero => exact ⟨Nat.le_of_ble_eq_true h.1, Nat.le_of_ble_eq_true h.2.1⟩
    | succ t =>
      obtain ⟨m, rfl⟩ : ∃ m, n = m + 1 := ⟨n - 1, by lia⟩
      exact conv_is h.2.2 (n := m) (by simpa using h1) (by simpa using h2) (by simpa using h3) (by simpa using h4) t (by lia)
noncomputable def kind (a b y : Int) : Nat := (pc a y).toNat * 3 + (pc b y).toNat
theorem kind_a {a b y : Int} : ((kc true (kind a b y) : Nat) : Int) = pc a y := by
  have h1 : 0 ≤ pc a y ∧ pc a y ≤ 2 := by unfold pc; split <;> (try split) <;> lia
  have h2 : 0 ≤ pc b y ∧ pc b y ≤ 2 := by unfold pc; split <;> (try split) <;> lia
  show (((kind a b y) / 3 : Nat) : Int) = _
  unfold kind; lia
theorem kind_b {a b y : Int} : ((kc false (kind a b y) : Nat) : Int) = pc b y := by
  have h1 : 0 ≤ pc a y ∧ pc a y ≤ 2 := by unfold pc; split <;> (try split) <;> lia
  have h2 : 0 ≤ pc b y ∧ pc b y ≤ 2 := by unfold pc; split <;> (try split) <;> lia
  show (((kind a b y) % 3 : Nat) : Int) = _
  unfold kind; lia
theorem four {y : Int} (h : 0 ≤ y ∧ y < 4) : y = 0 ∨ y = 1 ∨ y = 2 ∨ y = 3 := by lia
theorem kinds1 {a y : Int} (ha : 0 ≤ a ∧ a < 4) (hy : 0 ≤ y ∧ y < 4) : kind a a y ∈ [0, 4, 8] := by
  rcases four ha with rfl | rfl | rfl | rfl <;> rcases four hy with rfl | rfl | rfl | rfl <;> decide
theorem kinds2 {a b : Int} (ha : 0 ≤ a ∧ a < 4) (hb : 0 ≤ b ∧ b < 4) : (∀ y : Int, 0 ≤ y ∧ y < 4 → kind a b y ∈ [0, 4, 8]) ∨ (∀ y : Int, 0 ≤ y ∧ y < 4 → kind a b y ∈ [1, 3, 8]) ∨ (∀ y : Int, 0 ≤ y ∧ y < 4 → kind a b y ∈ [2, 5, 6, 7]) := by
  rcases four ha with rfl | rfl | rfl | rfl <;> rcases four hb with rfl | rfl | rfl | rfl <;>
    first
      | (refine .inl fun y hy => ?_; rcases four hy with rfl | rfl | rfl | rfl <;> decide)
      | (refine .inr (.inl fun y hy => ?_); rcases four hy with rfl | rfl | rfl | rfl <;> decide)
      | (refine .inr (.inr fun y hy => ?_); rcases four hy with rfl | rfl | rfl | rfl <;> decide)
theorem kind_at {a b : Int} {ln : List Int} {t : Nat} (ht : t < ln.length) : (ln.map (kind a b)).getD t 0 = kind a b (ln.getD t 0) := by
  simp [List.getD, ht]
theorem convex1 {a : Int} {ln : List Int} (ha : 0 ≤ a ∧ a < 4) (hl : ∀ y ∈ ln, 0 ≤ y ∧ y < 4) (hn : 2 ≤ ln.length ∧ ln.length ≤ 4) :
    D (cP [a, a, a] ln) 1 ln.length - D (cP [a, a, a] ln) 0 ln.length ≤ D (cP [a, a, a] ln) 2 ln.length - D (cP [a, a, a] ln) 1 ln.length ∧
    D (cP [a, a, a] ln) 2 ln.length - D (cP [a, a, a] ln) 1 ln.length ≤ D (cP [a, a, a] ln) 3 ln.length - D (cP [a, a, a] ln) 2 ln.length := by
  have hk : (ln.map (kind a a)).length = ln.length := by simp
  have hm := over_mem (A := [0, 4, 8]) (l := ln.map (kind a a)) fun k hk => by
    obtain ⟨y, hy, rfl⟩ := List.mem_map.mp hk
    exact kinds1 ha (hl y hy)
  have hc := List.all_eq_true.mp (ch1 _ (by rw [hk]; lia)) _ hm
  have R0 := Row.zero (cP [a, a, a] ln) hk
  have R1 := R0.step (f := kc true) hk fun t ht => by rw [kind_at ht, kind_a]; rfl
  have R2 := R1.step (f := kc true) hk fun t ht => by rw [kind_at ht, kind_a]; rfl
  have R3 := R2.step (f := kc true) hk fun t ht => by rw [kind_at ht, kind_a]; rfl
  have := conv_is hc R0.1 R1.1 R2.1 R3.1 (ln.length - 1) (by lia)
  have e0 := R0.2 (ln.length - 1) (by lia)
  have e1 := R1.2 (ln.length - 1) (by lia)
  have e2 := R2.2 (ln.length - 1) (by lia)
  have e3 := R3.2 (ln.length - 1) (by lia)
  rw [show ln.length - 1 + 1 = ln.length from by lia] at e0 e1 e2 e3
  simp only [Nat.zero_add, Nat.reduceAdd, Nat.reduceMul, Nat.mul_zero] at *
  lia
theorem convex2 {a b : Int} {ln : List Int} (ha : 0 ≤ a ∧ a < 4) (hb : 0 ≤ b ∧ b < 4) (hl : ∀ y ∈ ln, 0 ≤ y ∧ y < 4) (hn : 2 ≤ ln.length ∧ ln.length ≤ 4) :
    D (cP [a, b, a, b, a, b] ln) 2 ln.length - D (cP [a, b, a, b, a, b] ln) 0 ln.length ≤ D (cP [a, b, a, b, a, b] ln) 4 ln.length - D (cP [a, b, a, b, a, b] ln) 2 ln.length ∧
    D (cP [a, b, a, b, a, b] ln) 4 ln.length - D (cP [a, b, a, b, a, b] ln) 2 ln.length ≤ D (cP [a, b, a, b, a, b] ln) 6 ln.length - D (cP [a, b, a, b, a, b] ln) 4 ln.length := by
  have hk : (ln.map (kind a b)).length = ln.length := by simp
  have hm : check2 (ln.map (kind a b)) = true := by
    have hn' : (ln.map (kind a b)).length = 2 ∨ (ln.map (kind a b)).length = 3 ∨ (ln.map (kind a b)).length = 4 := by rw [hk]; lia
    rcases kinds2 ha hb with h | h | h
    · exact List.all_eq_true.mp (ch2 _ hn') _ (over_mem fun k hk => by obtain ⟨y, hy, rfl⟩ := List.mem_map.mp hk; exact h y (hl y hy))
    · exact List.all_eq_true.mp (ch3 _ hn') _ (over_mem fun k hk => by obtain ⟨y, hy, rfl⟩ := List.mem_map.mp hk; exact h y (hl y hy))
    · exact List.all_eq_true.mp (ch4 _ hn') _ (over_mem fun k hk => by obtain ⟨y, hy, rfl⟩ := List.mem_map.mp hk; exact h y (hl y hy))
  have R0 := Row.zero (cP [a, b, a, b, a, b] ln) hk
  have R1 := R0.step (f := kc true) hk fun t ht => by rw [kind_at ht, kind_a]; rfl
  have R2 := R1.step (f := kc false) hk fun t ht => by rw [kind_at ht, kind_b]; rfl
  have R3 := R2.step (f := kc true) hk fun t ht => by rw [kind_at ht, kind_a]; rfl
  have R4 := R3.step (f := kc false) hk fun t ht => by rw [kind_at ht, kind_b]; rfl
  have R5 := R4.step (f := kc true) hk fun t ht => by rw [kind_at ht, kind_a]; rfl
  have R6 := R5.step (f := kc false) hk fun t ht => by rw [kind_at ht, kind_b]; rfl
  have := conv_is hm R0.1 R2.1 R4.1 R6.1 (ln.length - 1) (by lia)
  have e0 := R0.2 (ln.length - 1) (by lia)
  have e1 := R2.2 (ln.length - 1) (by lia)
  have e2 := R4.2 (ln.length - 1) (by lia)
  have e3 := R6.2 (ln.length - 1) (by lia)
  rw [show ln.length - 1 + 1 = ln.length from by lia] at e0 e1 e2 e3
  simp only [Nat.zero_add, Nat.reduceAdd, Nat.reduceMul, Nat.mul_zero] at *
  lia
theorem scost_pc {x y : Int} (hx : 0 ≤ x ∧ x < 4) (hy : 0 ≤ y ∧ y < 4) : scost (codeOf x) (codeOf y) = pc x y := by
  rcases four hx with rfl | rfl | rfl | rfl <;> rcases four hy with rfl | rfl | rfl | rfl <;> decide
theorem spell_len (l : List Int) : (spell l).length = l.length := by simp [spell]
theorem spell_at {l : List Int} {i : Nat} (h : i < l.length) : (spell l).getD i 0 = codeOf (l.getD i 0) := by simp [spell, List.getD, h]
theorem getD_in {l : List Int} (hl : ∀ y ∈ l, 0 ≤ y ∧ y < 4) {i : Nat} (h : i < l.length) : 0 ≤ l.getD i 0 ∧ l.getD i 0 < 4 := by
  have : l.getD i 0 = l[i] := by simp [List.getD, h]
  rw [this]; exact hl _ (List.getElem_mem h)
/-- the said word's price by the program is the table's -/
theorem lev_price {sn ln q : List Int} (hs : ∀ y ∈ sn, 0 ≤ y ∧ y < 4) (hl : ∀ y ∈ ln, 0 ≤ y ∧ y < 4) (hq : ∃ r, sn = q ++ r) : lev (spell q) (spell ln) (D (cP sn ln) q.length ln.length) = D (cP sn ln) q.length ln.length := by
  obtain ⟨r, rfl⟩ := hq
  have e : Dl (spell q) (spell ln) = D (cP (q ++ r) ln) q.length ln.length := by
    unfold Dl
    rw [spell_len, spell_len]
    refine D_congr _ _ _ rfl fun i j hi hj => ?_
    show scost _ _ = pc _ _
    rw [spell_at hi, spell_at hj, scost_pc (getD_in (fun y hy => hs y (List.mem_append_left _ hy)) hi) (getD_in hl hj)]
    congr 1
    simp [List.getD, List.getElem?_append_left hi]
  rw [← e]
  exact lev_is (Int.le_refl _)
end Mine
end

section
open PySem PySem.W PyProof.Rows
set_option Elab.async false
set_option maxRecDepth 100000
set_option maxHeartbeats 8000000
namespace Mine
section
variable {prog : Program} {w : World} {A : Around} {E : Value → Shared → Prop} {s : Shared} {env : Env} {h₀ : Heap} {target : Expr} {body : List Stmt} {Q : Flow → Shared → Prop}
theorem tup_turns {ax : Addr} {lo : Obj} {vs : List Value} {n : Nat} {m₀ : Str → Option Value} {news : List (Addr × Obj)} (J : Addr → Nat → (Str → Option Value) → List (Addr × Obj) → Prop)
    (hh : A.handled = none) (F : Fr h₀ env.locals s.heap m₀) (N : News h₀ env.locals s.heap news) (hm : (ax, lo) ∈ news) (hc : lo.cls = .type "tuple") (hd : lo.data = .seq vs.toArray n)
    (hj : ∀ I, (∀ p ∈ news, p.1 < I) → J I 0 m₀ news) (hkeep : ∀ I i m nx, J I i m nx → (ax, lo) ∈ nx)
    (turn : ∀ I i v m nx h tk oi, (∀ p ∈ news, p.1 < I) → vs[i]? = some v → J I i m nx → Fr h₀ env.locals h m → News h₀ env.locals h (nx ++ [(I, oi)]) →
      wpAny (model prog w) A (assign target env v) (fun _ s₂ => wpAny (model prog w) A (execs body env) (InvPostR h₀ env.locals (J I (i + 1)) [(I, oi)] { s with heap := h, toks := tk } Q) E s₂) E { s with heap := h, toks := tk })
    (done : ∀ I m nx h tk, (∀ p ∈ news, p.1 < I) → J I vs.length m nx → Fr h₀ env.locals h m → News h₀ env.locals h nx → Q .next { s with heap := h, toks := tk }) :
    wpAny (model prog w) A (pyIter (.ref ax)) (fun it s₂ => TurnsAt prog w A h₀ env target body Q E it s₂) E s := by
  refine iter_tupTurns hh F N hm hc hd fun I hI => ?_
  have hlen : (vs.map Itm.val).length = vs.length := by simp
  have := items_inv (prog := prog) (w := w) (A := A) (E := E) (s := s) (env := env) (h₀ := h₀) (target := target) (body := body) (Q := Q) (ws := [(I, "tuple_iterator")]) (keep := [(ax, lo)]) (xs := vs.map Itm.val) (J I)
    (fun i m nx j => ⟨hkeep _ _ _ _ j, trivial⟩) (fun i a v m nx h tk its ha hav j F' ho N' => ?_) (fun m nx h tk j F' N' => done I m nx h tk hI (hlen ▸ j) F' N') (vs.map Itm.val).length 0 m₀ news (by omega) (hj I hI)
  · simpa using this
  · rw [List.getElem?_map] at ha
    cases hv : vs[i]? with
    | none => rw [hv] at ha; cases ha
    | some v' =>
      rw [hv] at ha
      obtain rfl := Option.some.inj ha
      obtain rfl : v = v' := hav
      obtain ⟨oi, rfl⟩ := objs_one ho
      exact turn I i v m nx h tk oi hI hv j F' N'
end
end Mine
end

section
open PySem PySem.W PyProof.Rows
set_option Elab.async false
set_option maxRecDepth 100000
set_option maxHeartbeats 8000000
namespace Mine
noncomputable def Apt (B SL TL a : Nat) : Prop := a ≠ SL ∧ a ≠ TL ∧ a ≠ B + 1 ∧ a ≠ B + 1 + 1 ∧ a ≠ B + 1 + 1 + 1 ∧ a ≠ B + 1 + 1 + 1 + 1 ∧ a ≠ B + 1 + 1 + 1 + 1 + 1 ∧ a ≠ B + 1 + 1 + 1 + 1 + 1 + 1 ∧ a ≠ B + 1 + 1 + 1 + 1 + 1 + 1 + 1 ∧
  a ≠ B + 1 + 1 + 1 + 1 + 1 + 1 + 1 + 1 ∧ a ≠ B + 1 + 1 + 1 + 1 + 1 + 1 + 1 + 1 + 1 ∧ a ≠ B + 1 + 1 + 1 + 1 + 1 + 1 + 1 + 1 + 1 + 1
theorem nb (k : Nat) {B a : Nat} (h : B + 10 < a) (hk : Nat.ble k 10 = true) : @Ne Nat a (B + k) := Nat.ne_of_gt (Nat.lt_of_le_of_lt (Nat.add_le_add_left (Nat.le_of_ble_eq_true hk) B) h)
theorem Apt.of_lt {B SL TL a : Nat} (h1 : TL < SL) (h2 : B + 1 + 1 + 1 + 1 + 1 + 1 + 1 + 1 + 1 + 1 < TL) (h : SL < a) : Apt B SL TL a :=
  have e : B + 10 < a := Nat.lt_trans h2 (Nat.lt_trans h1 h)
  ⟨Nat.ne_of_gt h, Nat.ne_of_gt (Nat.lt_trans h1 h), nb 1 e rfl, nb 2 e rfl, nb 3 e rfl, nb 4 e rfl, nb 5 e rfl, nb 6 e rfl, nb 7 e rfl, nb 8 e rfl, nb 9 e rfl, nb 10 e rfl⟩
noncomputable def Cel (B a : Nat) : Prop := a ≠ B + 1 + 1 + 1 + 1 + 1 + 1 + 1 ∧ a ≠ B + 1 + 1 + 1 + 1 + 1 + 1 + 1 + 1 ∧ a ≠ B + 1 + 1 + 1 + 1 + 1 + 1 + 1 + 1 + 1 ∧ a ≠ B + 1 + 1 + 1 + 1 + 1 + 1 + 1 + 1 + 1 + 1
theorem Cel.ne7 {B a : Nat} (h : Cel B a) : @Ne Nat a (B + 1 + 1 + 1 + 1 + 1 + 1 + 1) := h.1
theorem Cel.ne8 {B a : Nat} (h : Cel B a) : @Ne Nat a (B + 1 + 1 + 1 + 1 + 1 + 1 + 1 + 1) := h.2.1
theorem Cel.ne9 {B a : Nat} (h : Cel B a) : @Ne Nat a (B + 1 + 1 + 1 + 1 + 1 + 1 + 1 + 1 + 1) := h.2.2.1
theorem Cel.ne10 {B a : Nat} (h : Cel B a) : @Ne Nat a (B + 1 + 1 + 1 + 1 + 1 + 1 + 1 + 1 + 1 + 1) := h.2.2.2
theorem Apt.cel {B SL TL a : Nat} (h : Apt B SL TL a) : Cel B a := ⟨h.2.2.2.2.2.2.2.2.1, h.2.2.2.2.2.2.2.2.2.1, h.2.2.2.2.2.2.2.2.2.2.1, h.2.2.2.2.2.2.2.2.2.2.2⟩
theorem Cel.of_lt {B a : Nat} (h : B + 1 + 1 + 1 + 1 + 1 + 1 + 1 + 1 + 1 + 1 < a) : Cel B a := ⟨nb 7 h rfl, nb 8 h rfl, nb 9 h rfl, nb 10 h rfl⟩
theorem Cel.mk4 {B a : Nat} (h10 : @Ne Nat (B + 1 + 1 + 1 + 1 + 1 + 1 + 1 + 1 + 1 + 1) a) (h9 : @Ne Nat (B + 1 + 1 + 1 + 1 + 1 + 1 + 1 + 1 + 1) a) (h8 : @Ne Nat (B + 1 + 1 + 1 + 1 + 1 + 1 + 1 + 1) a) (h7 : @Ne Nat (B + 1 + 1 + 1 + 1 + 1 + 1 + 1) a) : Cel B a := ⟨h7.symm, h8.symm, h9.symm, h10.symm⟩
noncomputable def Cel2 (B a : Nat) : Prop := a ≠ B + 1 + 1 + 1 + 1 ∧ a ≠ B + 1 + 1 + 1 + 1 + 1 ∧ a ≠ B + 1 + 1 + 1 + 1 + 1 + 1
theorem Cel2.ne4 {B a : Nat} (h : Cel2 B a) : @Ne Nat a (B + 1 + 1 + 1 + 1) := h.1
theorem Cel2.ne5 {B a : Nat} (h : Cel2 B a) : @Ne Nat a (B + 1 + 1 + 1 + 1 + 1) := h.2.1
theorem Cel2.ne6 {B a : Nat} (h : Cel2 B a) : @Ne Nat a (B + 1 + 1 + 1 + 1 + 1 + 1) := h.2.2
theorem Cel2.of_lt {B a : Nat} (h : B + 1 + 1 + 1 + 1 + 1 + 1 + 1 + 1 + 1 + 1 < a) : Cel2 B a := ⟨nb 4 h rfl, nb 5 h rfl, nb 6 h rfl⟩
theorem Cel2.mk3 {B a : Nat} (h4 : @Ne Nat (B + 1 + 1 + 1 + 1) a) (h5 : @Ne Nat (B + 1 + 1 + 1 + 1 + 1) a) (h6 : @Ne Nat (B + 1 + 1 + 1 + 1 + 1 + 1) a) : Cel2 B a := ⟨h4.symm, h5.symm, h6.symm⟩
theorem bbne (i j : Nat) {B : Nat} (h : Nat.beq i j = false) : @Ne Nat (B + i) (B + j) := fun e => by
  have : i = j := Nat.add_left_cancel e
  subst this
  rw [Nat.beq_refl] at h
  exact Bool.noConfusion h
theorem Apt.mk12 {B SL TL a : Nat} (hS : @Ne Nat SL a) (hT : @Ne Nat TL a) (h1 : @Ne Nat (B + 1) a) (h2 : @Ne Nat (B + 1 + 1) a) (h3 : @Ne Nat (B + 1 + 1 + 1) a) (h4 : @Ne Nat (B + 1 + 1 + 1 + 1) a) (h5 : @Ne Nat (B + 1 + 1 + 1 + 1 + 1) a) (h6 : @Ne Nat (B + 1 + 1 + 1 + 1 + 1 + 1) a) (h7 : @Ne Nat (B + 1 + 1 + 1 + 1 + 1 + 1 + 1) a) (h8 : @Ne Nat (B + 1 + 1 + 1 + 1 + 1 + 1 + 1 + 1) a) (h9 : @Ne Nat (B + 1 + 1 + 1 + 1 + 1 + 1 + 1 + 1 + 1) a) (h10 : @Ne Nat (B + 1 + 1 + 1 + 1 + 1 + 1 + 1 + 1 + 1 + 1) a) : Apt B SL TL a := ⟨hS.symm, hT.symm, h1.symm, h2.symm, h3.symm, h4.symm, h5.symm, h6.symm, h7.symm, h8.symm, h9.symm, h10.symm⟩
inductive Sh : Nat → List Value → List Value → List (Addr × Obj) → Prop
  | nil : Sh 0 [] [] []
  | snoc {i : Nat} {ts ss : List Value} {C : List (Addr × Obj)} {P R : Addr} {pvs rvs : List Value} {np nr : Nat} {p0 p1 p2 p3 : Int} : Sh i ts ss C → IntsAre pvs [p0, p1, p2, p3] → IntsAre rvs [p1 - p0, p2 - p1, p3 - p2] → p1 - p0 ≤ p2 - p1 → p2 - p1 ≤ p3 - p2 →
      Sh (i + 1) (ts ++ [.ref P]) (ss ++ [.ref R]) ((P, listOf pvs.toArray np) :: (R, listOf rvs.toArray nr) :: C)
theorem Sh.len {i : Nat} {ts ss : List Value} {C : List (Addr × Obj)} (h : Sh i ts ss C) : ts.length = i ∧ ss.length = i := by
  induction h with
  | nil => exact ⟨rfl, rfl⟩
  | snoc _ _ _ _ _ ih => exact ⟨by rw [List.length_append, ih.1]; rfl, by rw [List.length_append, ih.2]; rfl⟩
theorem pick_word {ds : List Int} {wd : Int} (hl : ds.length = 10) (hb : ∀ d ∈ ds, 0 ≤ d ∧ d < 4) (hw : wd = 1 ∨ wd = 2) : ((pickI ds none (some wd) none).length : Int) = wd ∧ ∀ d ∈ pickI ds none (some wd) none, 0 ≤ d ∧ d < 4 := by
  match ds, hl with
  | [a, b, c, d, e, f, g, h, i, j], _ =>
    rcases hw with rfl | rfl
    · exact ⟨rfl, fun x hx => hb x (List.mem_of_mem_take (i := 1) hx)⟩
    · exact ⟨rfl, fun x hx => hb x (List.mem_of_mem_take (i := 2) hx)⟩
theorem pick_t1 {ds : List Int} {mo : Int} (hl : ds.length = 10) (hb : ∀ d ∈ ds, 0 ≤ d ∧ d < 4) (hw : mo = 0 ∨ mo = 1) : (2 ≤ (pickI ds (some 2) (some (5 + mo)) none).length ∧ (pickI ds (some 2) (some (5 + mo)) none).length ≤ 4) ∧ ∀ d ∈ pickI ds (some 2) (some (5 + mo)) none, 0 ≤ d ∧ d < 4 := by
  match ds, hl with
  | [a, b, c, d, e, f, g, h, i, j], _ =>
    rcases hw with rfl | rfl
    · exact ⟨show 2 ≤ List.length (α := Int) [c, d, e] ∧ List.length (α := Int) [c, d, e] ≤ 4 from by simp, fun x hx => hb x (List.mem_of_mem_drop (i := 2) (List.mem_of_mem_take (i := 3) hx))⟩
    · exact ⟨show 2 ≤ List.length (α := Int) [c, d, e, f] ∧ List.length (α := Int) [c, d, e, f] ≤ 4 from by simp, fun x hx => hb x (List.mem_of_mem_drop (i := 2) (List.mem_of_mem_take (i := 4) hx))⟩
theorem pick_t2 {ds : List Int} {mo : Int} (hl : ds.length = 10) (hb : ∀ d ∈ ds, 0 ≤ d ∧ d < 4) (hw : mo = 0 ∨ mo = 1) : (2 ≤ (pickI ds (some 6) (some (8 + 2 * mo)) none).length ∧ (pickI ds (some 6) (some (8 + 2 * mo)) none).length ≤ 4) ∧ ∀ d ∈ pickI ds (some 6) (some (8 + 2 * mo)) none, 0 ≤ d ∧ d < 4 := by
  match ds, hl with
  | [a, b, c, d, e, f, g, h, i, j], _ =>
    rcases hw with rfl | rfl
    · exact ⟨show 2 ≤ List.length (α := Int) [g, h] ∧ List.length (α := Int) [g, h] ≤ 4 from by simp, fun x hx => hb x (List.mem_of_mem_drop (i := 6) (List.mem_of_mem_take (i := 2) hx))⟩
    · exact ⟨show 2 ≤ List.length (α := Int) [g, h, i, j] ∧ List.length (α := Int) [g, h, i, j] ≤ 4 from by simp, fun x hx => hb x (List.mem_of_mem_drop (i := 6) (List.mem_of_mem_take (i := 4) hx))⟩
theorem flat_b {l : List Int} (h : ∀ d ∈ l, 0 ≤ d ∧ d < 4) {n : Nat} : ∀ d ∈ (List.replicate n l).flatten, 0 ≤ d ∧ d < 4 := by
  intro d hd
  obtain ⟨q, hq, hd⟩ := List.mem_flatten.mp hd
  rw [(List.mem_replicate.mp hq).2] at hd
  exact h d hd
theorem pick4 (f : Nat → Int) : pickI ((List.range 4).map f) none none (some 1) = [f 0, f 1, f 2, f 3] := by with_unfolding_all rfl
theorem pick7 (f : Nat → Int) : pickI ((List.range 7).map f) none none (some 2) = [f 0, f 2, f 4, f 6] := by with_unfolding_all rfl
theorem due_is {wns xs : List Int} {wd : Int} (hw : (wns.length : Int) = wd) (hwd : wd = 1 ∨ wd = 2) (hb : ∀ d ∈ wns, 0 ≤ d ∧ d < 4) (hx : ∀ d ∈ xs, 0 ≤ d ∧ d < 4) (hl : 2 ≤ xs.length ∧ xs.length ≤ 4) :
    ∃ p0 p1 p2 p3, pickI (prices (List.replicate (Int.toNat 3) wns).flatten xs) none none (some wd) = [p0, p1, p2, p3] ∧
      (∀ k : Nat, k < 4 → lev (spell (List.replicate k wns).flatten) (spell xs) ([p0, p1, p2, p3].getD k 0) = [p0, p1, p2, p3].getD k 0) ∧ p1 - p0 ≤ p2 - p1 ∧ p2 - p1 ≤ p3 - p2 := by
  rw [prices_is]
  rcases hwd with rfl | rfl
  · match wns, hw with
    | [a], _ =>
      have ha := hb a (.head _)
      have hc := convex1 ha hx hl
      refine ⟨D (cP [a, a, a] xs) 0 xs.length, D (cP [a, a, a] xs) 1 xs.length, D (cP [a, a, a] xs) 2 xs.length, D (cP [a, a, a] xs) 3 xs.length, pick4 fun k => D (cP [a, a, a] xs) k xs.length, fun k hk => ?_, hc.1, hc.2⟩
      have hs : ∀ d ∈ [a, a, a], 0 ≤ d ∧ d < 4 := by simp [ha]
      match k, hk with
      | 0, _ => exact lev_price (q := []) hs hx ⟨_, rfl⟩
      | 1, _ => exact lev_price (q := [a]) hs hx ⟨_, rfl⟩
      | 2, _ => exact lev_price (q := [a, a]) hs hx ⟨_, rfl⟩
      | 3, _ => exact lev_price (q := [a, a, a]) hs hx ⟨[], rfl⟩
  · match wns, hw with
    | [a, b], _ =>
      have ha := hb a (.head _)
      have hb := hb b (.tail _ (.head _))
      have hc := convex2 ha hb hx hl
      refine ⟨D (cP [a, b, a, b, a, b] xs) 0 xs.length, D (cP [a, b, a, b, a, b] xs) 2 xs.length, D (cP [a, b, a, b, a, b] xs) 4 xs.length, D (cP [a, b, a, b, a, b] xs) 6 xs.length, pick7 fun k => D (cP [a, b, a, b, a, b] xs) k xs.length, fun k hk => ?_, hc.1, hc.2⟩
      have hs : ∀ d ∈ [a, b, a, b, a, b], 0 ≤ d ∧ d < 4 := by simp [ha, hb]
      match k, hk with
      | 0, _ => exact lev_price (q := []) hs hx ⟨_, rfl⟩
      | 1, _ => exact lev_price (q := [a, b]) hs hx ⟨_, rfl⟩
      | 2, _ => exact lev_price (q := [a, b, a, b]) hs hx ⟨_, rfl⟩
      | 3, _ => exact lev_price (q := [a, b, a, b, a, b]) hs hx ⟨[], rfl⟩
theorem spell_lt {l : List Int} (h : ∀ d ∈ l, 0 ≤ d ∧ d < 4) : ∀ c ∈ spell l, c < 128 := by
  intro c hc
  obtain ⟨d, hd, rfl⟩ := List.mem_map.mp hc
  rcases four (h d hd) with rfl | rfl | rfl | rfl <;> decide
theorem ints3 {vs : List Value} {a b c : Int} (h : IntsAre vs [a, b, c]) : ∃ t u v, vs = [.int a t, .int b u, .int c v] := by
  cases h with
  | cons _ t h => cases h with
    | cons _ u h => cases h with
      | cons _ v h => cases h; exact ⟨t, u, v, rfl⟩
theorem ints4 {vs : List Value} {a b c d : Int} (h : IntsAre vs [a, b, c, d]) : ∃ t u v w, vs = [.int a t, .int b u, .int c v, .int d w] := by
  cases h with
  | cons _ t h => cases h with
    | cons _ u h => cases h with
      | cons _ v h => cases h with
        | cons _ w h => cases h; exact ⟨t, u, v, w, rfl⟩
theorem sh2 {G : Prop} {ts ss : List Value} {C : List (Addr × Obj)} (h : Sh 2 ts ss C) (k : ∀ (P0 R0 P1 R1 : Addr) (n0 m0 n1 m1 : Nat) (p0 p1 p2 p3 q0 q1 q2 q3 : Int) (t0 t1 t2 t3 t4 t5 t6 t7 t8 t9 ta tb tc td : Tok),
    ts = [.ref P0, .ref P1] → ss = [.ref R0, .ref R1] → p1 - p0 ≤ p2 - p1 → p2 - p1 ≤ p3 - p2 → q1 - q0 ≤ q2 - q1 → q2 - q1 ≤ q3 - q2 →
    C = [(P1, listOf [Value.int q0 t0, .int q1 t1, .int q2 t2, .int q3 t3].toArray n1), (R1, listOf [Value.int (q1 - q0) t4, .int (q2 - q1) t5, .int (q3 - q2) t6].toArray m1),
      (P0, listOf [Value.int p0 t7, .int p1 t8, .int p2 t9, .int p3 ta].toArray n0), (R0, listOf [Value.int (p1 - p0) tb, .int (p2 - p1) tc, .int (p3 - p2) td].toArray m0)] → G) : G := by
  cases h with
  | snoc h i1 i2 c1 c2 => cases h with
    | snoc h j1 j2 d1 d2 =>
      cases h
      obtain ⟨_, _, _, _, rfl⟩ := ints4 i1
      obtain ⟨_, _, _, rfl⟩ := ints3 i2
      obtain ⟨_, _, _, _, rfl⟩ := ints4 j1
      obtain ⟨_, _, _, rfl⟩ := ints3 j2
      exact k _ _ _ _ _ _ _ _ _ _ _ _ _ _ _ _ _ _ _ _ _ _ _ _ _ _ _ _ _ _ rfl rfl d1 d2 c1 c2 rfl
end Mine
end

section
open PySem PySem.W PyProof.Rows
set_option Elab.async false
set_option maxRecDepth 100000
set_option maxHeartbeats 8000000
namespace Mine
noncomputable def cand (ps qs : List Int) (n j : Nat) : List Int := ((List.range j).filter fun k => decide (k ≤ n ∧ n < k + 4)).map fun k => ps.getD k 0 + qs.getD (n - k) 0
theorem cand_in {ps qs : List Int} {n j : Nat} (h : j ≤ n ∧ n < j + 4) : cand ps qs n (j + 1) = cand ps qs n j ++ [ps.getD j 0 + qs.getD (n - j) 0] := by
  unfold cand
  rw [List.range_succ, List.filter_append, List.map_append, List.filter_cons_of_pos (by simpa using h)]
  rfl
theorem cand_out {ps qs : List Int} {n j : Nat} (h : ¬ (j ≤ n ∧ n < j + 4)) : cand ps qs n (j + 1) = cand ps qs n j := by
  unfold cand
  rw [List.range_succ, List.filter_append, List.map_append, List.filter_cons_of_neg (by simpa using h)]
  simp
theorem cand_pos {ps qs : List Int} {n : Nat} (h : n < 7) : 0 < (cand ps qs n 4).length := by
  unfold cand
  rw [List.length_map]
  have : ∀ n : Nat, n < 7 → 0 < ((List.range 4).filter fun k => decide (k ≤ n ∧ n < k + 4)).length := by decide
  exact this n h
noncomputable def LS (p0 p1 p2 p3 q0 q1 q2 q3 : Int) : List Int := dealt (p1 - p0) (p2 - p1) (p3 - p2) (q1 - q0) (q2 - q1) (q3 - q2) (p0 + q0)
theorem lt2_01 (a b : Int) : lt2 a ((0 : Nat) : Int) b ((1 : Nat) : Int) = decide (a ≤ b) := by
  unfold lt2
  by_cases h : a = b
  · subst h; simp
  · rw [if_neg h]
    by_cases h2 : a < b
    · rw [decide_eq_true h2, decide_eq_true (by lia)]
    · rw [decide_eq_false h2, decide_eq_false (by lia)]
theorem lt2_10 (a b : Int) : lt2 b ((1 : Nat) : Int) a ((0 : Nat) : Int) = decide (b < a) := by
  unfold lt2
  by_cases h : b = a
  · subst h; simp
  · rw [if_neg h]
noncomputable def hst (f : Nat → Nat → Int) (i j : Nat) : List (Nat × Nat) :=
  if i < 3 then (if j < 3 then (if f 0 i ≤ f 1 j then [(0, i), (1, j)] else [(1, j), (0, i)]) else [(0, i)]) else (if j < 3 then [(1, j)] else [])
noncomputable def tl (f : Nat → Nat → Int) : Nat → Nat → Nat → Int → List Int
  | 0, _, _, _ => []
  | n + 1, i, j, v => if i < 3 ∧ (¬ j < 3 ∨ f 0 i ≤ f 1 j) then (v + f 0 i) :: tl f n (i + 1) j (v + f 0 i) else (v + f 1 j) :: tl f n i (j + 1) (v + f 1 j)
theorem lastD_snoc (l : List Int) (x : Int) : lastD (l ++ [x]) = x := by
  rw [lastD_is (n := l.length) (by simp)]
  simp [List.getD]
theorem dstep2 (f : Nat → Nat → Int) (k p j q : Nat) : dstep f [(k, p), (j, q)] = if p + 1 < 3 then (if lt2 (f k (p + 1)) k (f j q) j = true then [(k, p + 1), (j, q)] else [(j, q), (k, p + 1)]) else [(j, q)] := rfl
theorem drun_tl (f : Nat → Nat → Int) : ∀ n i j (ss : List Int), i + j + n = 6 → i ≤ 3 → j ≤ 3 → drun f n (hst f i j) ss = ss ++ tl f n i j (lastD ss) := by
  intro n
  induction n with
  | zero => intro i j ss _ _ _; simp [drun, tl]
  | succ n ih =>
    intro i j ss hn hi hj
    have key : ∀ (x : Int) (r : List Int), ss ++ [x] ++ r = ss ++ (x :: r) := fun x r => by simp
    by_cases h1 : i < 3
    · by_cases h2 : j < 3
      · by_cases h3 : f 0 i ≤ f 1 j
        · have e : dstep f [(0, i), (1, j)] = hst f (i + 1) j := by
            rw [dstep2]
            unfold hst
            rw [lt2_01, if_pos h2, if_pos h2]
            simp only [decide_eq_true_eq]
          rw [hst, if_pos h1, if_pos h2, if_pos h3, drun, e, ih _ _ _ (by lia) (by lia) hj, lastD_snoc, key, tl, if_pos ⟨h1, .inr h3⟩]
        · have e : dstep f [(1, j), (0, i)] = hst f i (j + 1) := by
            rw [dstep2]
            unfold hst
            rw [lt2_10, if_pos h1]
            simp only [decide_eq_true_eq]
            by_cases h4 : j + 1 < 3
            · rw [if_pos h4, if_pos h4]
              by_cases h5 : f 1 (j + 1) < f 0 i
              · rw [if_pos h5, if_neg (by lia)]
              · rw [if_neg h5, if_pos (by lia)]
            · rw [if_neg h4, if_neg h4]
          rw [hst, if_pos h1, if_pos h2, if_neg h3, drun, e, ih _ _ _ (by lia) hi (by lia), lastD_snoc, key, tl, if_neg (by lia)]
      · have e : dstep f [(0, i)] = hst f (i + 1) j := by
          unfold dstep hst
          rw [if_neg h2, if_neg h2]
        rw [hst, if_pos h1, if_neg h2, drun, e, ih _ _ _ (by lia) (by lia) hj, lastD_snoc, key, tl, if_pos ⟨h1, .inl h2⟩]
    · have h2 : j < 3 := by lia
      have e : dstep f [(1, j)] = hst f i (j + 1) := by
        unfold dstep hst
        rw [if_neg h1]
      rw [hst, if_neg h1, if_pos h2, drun, e, ih _ _ _ (by lia) hi (by lia), lastD_snoc, key, tl, if_neg (by lia)]
noncomputable def Opt (P Q : Nat → Int) (i j : Nat) : Prop := i ≤ 3 ∧ j ≤ 3 ∧ (0 < i → j < 3 → P i - P (i - 1) ≤ Q (j + 1) - Q j) ∧ (0 < j → i < 3 → Q j - Q (j - 1) ≤ P (i + 1) - P i)
noncomputable abbrev Srt (P : Nat → Int) : Prop := P 1 - P 0 ≤ P 2 - P 1 ∧ P 2 - P 1 ≤ P 3 - P 2
theorem opt_a {P Q : Nat → Int} (sP : Srt P) {i j : Nat} (h : Opt P Q i j) (hi : i < 3) (hc : ¬ j < 3 ∨ P (i + 1) - P i ≤ Q (j + 1) - Q j) : Opt P Q (i + 1) j := by
  obtain ⟨a, b, c, d⟩ := h
  refine ⟨by lia, b, fun _ hj => ?_, fun h0 hi2 => ?_⟩
  · rw [Nat.add_sub_cancel]; lia
  · have := d h0 hi
    have e : P (i + 1) - P i ≤ P (i + 1 + 1) - P (i + 1) := by
      match i, hi2 with
      | 0, _ => exact sP.1
      | 1, _ => exact sP.2
    lia
theorem opt_b {P Q : Nat → Int} (sQ : Srt Q) {i j : Nat} (h : Opt P Q i j) (hj : j < 3) (hc : i < 3 → Q (j + 1) - Q j ≤ P (i + 1) - P i) : Opt P Q i (j + 1) := by
  obtain ⟨a, b, c, d⟩ := h
  refine ⟨a, by lia, fun h0 hj2 => ?_, fun _ hi => ?_⟩
  · have := c h0 hj
    have e : Q (j + 1) - Q j ≤ Q (j + 1 + 1) - Q (j + 1) := by
      match j, hj2 with
      | 0, _ => exact sQ.1
      | 1, _ => exact sQ.2
    lia
  · rw [Nat.add_sub_cancel]; exact hc hi
theorem tl_len (f : Nat → Nat → Int) : ∀ n i j v, (tl f n i j v).length = n
  | 0, _, _, _ => rfl
  | n + 1, i, j, v => by unfold tl; split <;> simp [tl_len f n]
theorem tl_is {P Q : Nat → Int} (sP : Srt P) (sQ : Srt Q) {f : Nat → Nat → Int} (f0 : ∀ i, i < 3 → f 0 i = P (i + 1) - P i) (f1 : ∀ j, j < 3 → f 1 j = Q (j + 1) - Q j) :
    ∀ n i j v, i + j + n = 6 → Opt P Q i j → v = P i + Q j → ∀ t, t < n → ∃ i' j', i' + j' = i + j + t + 1 ∧ Opt P Q i' j' ∧ (tl f n i j v).getD t 0 = P i' + Q j' := by
  intro n
  induction n with
  | zero => intro i j v _ _ _ t ht; exact absurd ht (Nat.not_lt_zero _)
  | succ n ih =>
    intro i j v hn ho hv t ht
    unfold tl
    have hi := ho.1
    have hj := ho.2.1
    by_cases hc : i < 3 ∧ (¬ j < 3 ∨ f 0 i ≤ f 1 j)
    · rw [if_pos hc]
      have ho' : Opt P Q (i + 1) j := opt_a sP ho hc.1 (by
        by_cases hj3 : j < 3
        · rw [f0 i hc.1, f1 j hj3] at hc; exact hc.2
        · exact .inl hj3)
      have hv' : v + f 0 i = P (i + 1) + Q j := by rw [f0 i hc.1, hv]; lia
      cases t with
      | zero => exact ⟨i + 1, j, by lia, ho', hv'⟩
      | succ t =>
        obtain ⟨i', j', h1, h2, h3⟩ := ih (i + 1) j _ (by lia) ho' hv' t (by lia)
        exact ⟨i', j', by lia, h2, h3⟩
    · rw [if_neg hc]
      have hj3 : j < 3 := by lia
      have ho' : Opt P Q i (j + 1) := opt_b sQ ho hj3 fun hi3 => by
        have : ¬ f 0 i ≤ f 1 j := fun h => hc ⟨hi3, .inr h⟩
        rw [f0 i hi3, f1 j hj3] at this
        lia
      have hv' : v + f 1 j = P i + Q (j + 1) := by rw [f1 j hj3, hv]; lia
      cases t with
      | zero => exact ⟨i, j + 1, by lia, ho', hv'⟩
      | succ t =>
        obtain ⟨i', j', h1, h2, h3⟩ := ih i (j + 1) _ (by lia) ho' hv' t (by lia)
        exact ⟨i', j', by lia, h2, h3⟩
theorem srt_at {P : Nat → Int} (s : Srt P) : ∀ i, i < 2 → P (i + 1) - P i ≤ P (i + 2) - P (i + 1)
  | 0, _ => s.1
  | 1, _ => s.2
theorem opt_le {P Q : Nat → Int} (sP : Srt P) (sQ : Srt Q) {i j k l : Nat} (h : Opt P Q i j) (hk : k ≤ 3) (hl : l ≤ 3) (e : k + l = i + j) : P i + Q j ≤ P k + Q l := by
  obtain ⟨a, b, c, d⟩ := h
  rcases Nat.lt_trichotomy k i with hlt | rfl | hlt
  · obtain ⟨t, rfl⟩ : ∃ t, i = k + t := ⟨i - k, by lia⟩
    obtain rfl : l = j + t := by lia
    have he : t = 1 ∨ t = 2 ∨ t = 3 := by lia
    have hc := c (by lia) (by lia)
    clear c d e
    rcases he with rfl | rfl | rfl
    · have hc : P (k + 1) - P k ≤ Q (j + 1) - Q j := hc
      clear sP sQ
      lia
    · have hc : P (k + 2) - P (k + 1) ≤ Q (j + 1) - Q j := hc
      have s1 := srt_at sP k (by lia)
      have s2 := srt_at sQ j (by lia)
      clear sP sQ
      lia
    · obtain rfl : k = 0 := by lia
      obtain rfl : j = 0 := by lia
      have hc : P 3 - P 2 ≤ Q 1 - Q 0 := hc
      obtain ⟨s1, s2⟩ := sP
      obtain ⟨s3, s4⟩ := sQ
      show P 3 + Q 0 ≤ P 0 + Q 3
      lia
  · obtain rfl : l = j := by lia
    exact Int.le_refl _
  · obtain ⟨t, rfl⟩ : ∃ t, k = i + t := ⟨k - i, by lia⟩
    obtain rfl : j = l + t := by lia
    have he : t = 1 ∨ t = 2 ∨ t = 3 := by lia
    have hc := d (by lia) (by lia)
    clear c d e
    rcases he with rfl | rfl | rfl
    · have hc : Q (l + 1) - Q l ≤ P (i + 1) - P i := hc
      clear sP sQ
      lia
    · have hc : Q (l + 2) - Q (l + 1) ≤ P (i + 1) - P i := hc
      have s1 := srt_at sP i (by lia)
      have s2 := srt_at sQ l (by lia)
      clear sP sQ
      lia
    · obtain rfl : i = 0 := by lia
      obtain rfl : l = 0 := by lia
      have hc : Q 3 - Q 2 ≤ P 1 - P 0 := hc
      obtain ⟨s1, s2⟩ := sP
      obtain ⟨s3, s4⟩ := sQ
      show P 0 + Q 3 ≤ P 3 + Q 0
      lia
noncomputable abbrev g4 (p0 p1 p2 p3 : Int) : Nat → Int := fun i => [p0, p1, p2, p3].getD i 0
theorem LS_tl (p0 p1 p2 p3 q0 q1 q2 q3 : Int) : LS p0 p1 p2 p3 q0 q1 q2 q3 = (p0 + q0) :: tl (fOf (p1 - p0) (p2 - p1) (p3 - p2) (q1 - q0) (q2 - q1) (q3 - q2)) 6 0 0 (p0 + q0) := by
  have h := drun_tl (fOf (p1 - p0) (p2 - p1) (p3 - p2) (q1 - q0) (q2 - q1) (q3 - q2)) 6 0 0 [p0 + q0] rfl (by lia) (by lia)
  have e : (if lt2 (p1 - p0) 0 (q1 - q0) 1 = true then [(0, 0), (1, 0)] else [(1, 0), (0, 0)]) = hst (fOf (p1 - p0) (p2 - p1) (p3 - p2) (q1 - q0) (q2 - q1) (q3 - q2)) 0 0 := by
    have := lt2_01 (p1 - p0) (q1 - q0)
    rw [show lt2 (p1 - p0) 0 (q1 - q0) 1 = decide (p1 - p0 ≤ q1 - q0) from this]
    unfold hst
    simp only [decide_eq_true_eq]
    rfl
  unfold LS dealt
  rw [e, h]
  rfl
theorem LS_len (p0 p1 p2 p3 q0 q1 q2 q3 : Int) : (LS p0 p1 p2 p3 q0 q1 q2 q3).length = 7 := by rw [LS_tl, List.length_cons, tl_len]
theorem LS_zero (p0 p1 p2 p3 q0 q1 q2 q3 : Int) : (LS p0 p1 p2 p3 q0 q1 q2 q3).getD 0 0 = p0 + q0 := by rw [LS_tl]; rfl
theorem LS_at {p0 p1 p2 p3 q0 q1 q2 q3 : Int} (sP : Srt (g4 p0 p1 p2 p3)) (sQ : Srt (g4 q0 q1 q2 q3)) {n : Nat} (hn : n < 7) :
    ∃ i j, i + j = n ∧ Opt (g4 p0 p1 p2 p3) (g4 q0 q1 q2 q3) i j ∧ (LS p0 p1 p2 p3 q0 q1 q2 q3).getD n 0 = g4 p0 p1 p2 p3 i + g4 q0 q1 q2 q3 j := by
  have h0 : Opt (g4 p0 p1 p2 p3) (g4 q0 q1 q2 q3) 0 0 := ⟨by lia, by lia, fun h => absurd h (by lia), fun h => absurd h (by lia)⟩
  rw [LS_tl]
  cases n with
  | zero => exact ⟨0, 0, rfl, h0, rfl⟩
  | succ n =>
    obtain ⟨i, j, h1, h2, h3⟩ := tl_is sP sQ (f := fOf (p1 - p0) (p2 - p1) (p3 - p2) (q1 - q0) (q2 - q1) (q3 - q2))
      (fun i hi => by match i, hi with | 0, _ => rfl | 1, _ => rfl | 2, _ => rfl) (fun i hi => by match i, hi with | 0, _ => rfl | 1, _ => rfl | 2, _ => rfl) 6 0 0 (p0 + q0) rfl h0 rfl n (by lia)
    exact ⟨i, j, by lia, h2, h3⟩
theorem least_is {p0 p1 p2 p3 q0 q1 q2 q3 : Int} (c1 : p1 - p0 ≤ p2 - p1) (c2 : p2 - p1 ≤ p3 - p2) (c3 : q1 - q0 ≤ q2 - q1) (c4 : q2 - q1 ≤ q3 - q2) {n : Nat} (hn : n < 7) {M : Int}
    (h1 : M ∈ cand [p0, p1, p2, p3] [q0, q1, q2, q3] n 4) (h2 : ∀ x ∈ cand [p0, p1, p2, p3] [q0, q1, q2, q3] n 4, M ≤ x) : M = (LS p0 p1 p2 p3 q0 q1 q2 q3).getD n 0 := by
  have sP : Srt (g4 p0 p1 p2 p3) := ⟨c1, c2⟩
  have sQ : Srt (g4 q0 q1 q2 q3) := ⟨c3, c4⟩
  obtain ⟨i, j, hij, ho, e⟩ := LS_at sP sQ hn
  have hi := ho.1
  have hj := ho.2.1
  rw [e]
  refine Int.le_antisymm ?_ ?_
  · refine h2 _ (List.mem_map.mpr ⟨i, List.mem_filter.mpr ⟨List.mem_range.mpr (by lia), by simp; lia⟩, ?_⟩)
    rw [show n - i = j from by lia]
  · obtain ⟨k, hk, rfl⟩ := List.mem_map.mp h1
    obtain ⟨hk1, hk2⟩ := List.mem_filter.mp hk
    have hk1 := List.mem_range.mp hk1
    have hk2 : k ≤ n ∧ n < k + 4 := by simpa using hk2
    exact opt_le sP sQ ho (by lia) (by lia) (by lia)
theorem LS_map (p0 p1 p2 p3 q0 q1 q2 q3 : Int) : (List.range 7).map (fun j => (LS p0 p1 p2 p3 q0 q1 q2 q3).getD j 0) = LS p0 p1 p2 p3 q0 q1 q2 q3 := by
  have h := LS_len p0 p1 p2 p3 q0 q1 q2 q3
  generalize LS p0 p1 p2 p3 q0 q1 q2 q3 = l at *
  match l, h with
  | [a, b, c, d, e, f, g], _ => rfl
theorem bl_b (a b c x : Int) : 0 ≤ bl a b c x ∧ bl a b c x ≤ 3 := by unfold bl; split <;> split <;> lia
theorem br_b (a b c x : Int) : 0 ≤ br a b c x ∧ br a b c x ≤ 3 := by unfold br; split <;> split <;> lia
theorem fwd_b {a b c a' b' c' x f : Int} (h : bl a b c x + (bl a' b' c' x + 0) = f) : 0 ≤ f ∧ f ≤ 6 := by
  have := bl_b a b c x; have := bl_b a' b' c' x; lia
theorem mwd_b {a b c a' b' c' x f : Int} (h : br a b c x + (br a' b' c' x + 0) = f) : 0 ≤ f ∧ f ≤ 6 := by
  have := br_b a b c x; have := br_b a' b' c' x; lia
noncomputable def left (l : List Int) (r : Int) (n : Nat) : Int := l.getD n 0 - r * (n : Int)
noncomputable def low (l : List Int) (r M : Int) (j : Nat) : List Int := ((List.range j).filter fun n => decide (left l r n = M)).map fun (n : Nat) => (n : Int)
theorem low_in {l : List Int} {r M : Int} {j : Nat} (h : left l r j = M) : low l r M (j + 1) = low l r M j ++ [(j : Int)] := by
  unfold low
  rw [List.range_succ, List.filter_append, List.map_append, List.filter_cons_of_pos (by simpa using h)]
  rfl
theorem low_out {l : List Int} {r M : Int} {j : Nat} (h : ¬ left l r j = M) : low l r M (j + 1) = low l r M j := by
  unfold low
  rw [List.range_succ, List.filter_append, List.map_append, List.filter_cons_of_neg (by simpa using h)]
  simp
theorem g_min {P : Nat → Int} (s : Srt P) (r : Int) : ∃ m : Int, (∀ i : Nat, i ≤ 3 → m ≤ P i - r * (i : Int)) ∧ (∀ i : Nat, i ≤ 3 → (P i - r * (i : Int) = m ↔ bl (P 1 - P 0) (P 2 - P 1) (P 3 - P 2) r ≤ (i : Int) ∧ (i : Int) ≤ br (P 1 - P 0) (P 2 - P 1) (P 3 - P 2) r)) ∧
    bl (P 1 - P 0) (P 2 - P 1) (P 3 - P 2) r ≤ br (P 1 - P 0) (P 2 - P 1) (P 3 - P 2) r := by
  obtain ⟨s1, s2⟩ := s
  have four : ∀ i : Nat, i ≤ 3 → i = 0 ∨ i = 1 ∨ i = 2 ∨ i = 3 := fun i hi => by lia
  refine ⟨if P 2 - P 1 < r then (if P 3 - P 2 < r then P 3 - r * 3 else P 2 - r * 2) else (if P 1 - P 0 < r then P 1 - r else P 0), fun i hi => ?_, fun i hi => ?_, ?_⟩
  · rcases four i hi with rfl | rfl | rfl | rfl <;> ((repeat' split) <;> lia)
  · unfold bl br
    rcases four i hi with rfl | rfl | rfl | rfl <;> (repeat' split) <;> lia
  · unfold bl br
    (repeat' split) <;> lia
theorem low_fin : ∀ F : Nat, F < 7 → ∀ G : Nat, G < 7 → ((List.range 7).filter fun n => decide (F ≤ n ∧ n ≤ G)).map (fun (n : Nat) => (n : Int)) = rangeKs (F : Int) (G + 1 - F) := by decide
theorem nat_of {a : Int} (h : 0 ≤ a ∧ a ≤ 3) : ∃ n : Nat, n ≤ 3 ∧ a = (n : Int) := ⟨a.toNat, by lia, by lia⟩
theorem sum7 {a b : Nat} (h1 : a ≤ 3) (h2 : b ≤ 3) : a + b < 7 := by lia
theorem le_chain {M l a b mA mB : Int} (h3 : M ≤ l) (h4 : l ≤ a + b) (h5 : a = mA) (h6 : b = mB) : M ≤ mA + mB := by rw [← h5, ← h6]; exact Int.le_trans h3 h4
theorem eq_both {A B mA mB x M : Int} (e : x = A + B) (h : x = M) (hM : M = mA + mB) (h5 : mA ≤ A) (h6 : mB ≤ B) : A = mA ∧ B = mB := by lia
theorem in_rng {fa fb ga gb i j n : Nat} (hij : i + j = n) (h7 : (fa : Int) ≤ (i : Int) ∧ (i : Int) ≤ (ga : Int)) (h8 : (fb : Int) ≤ (j : Int) ∧ (j : Int) ≤ (gb : Int)) : fa + fb ≤ n ∧ n ≤ ga + gb := by
  subst hij
  exact ⟨Nat.add_le_add (Int.ofNat_le.mp h7.1) (Int.ofNat_le.mp h8.1), Nat.add_le_add (Int.ofNat_le.mp h7.2) (Int.ofNat_le.mp h8.2)⟩
theorem of_rng {fa fb ga gb n : Nat} (ha : (fa : Int) ≤ (ga : Int)) (hb : (fb : Int) ≤ (gb : Int)) (h : fa + fb ≤ n ∧ n ≤ ga + gb) :
    ∃ i j : Nat, i + j = n ∧ ((fa : Int) ≤ (i : Int) ∧ (i : Int) ≤ (ga : Int)) ∧ ((fb : Int) ≤ (j : Int) ∧ (j : Int) ≤ (gb : Int)) ∧ i ≤ ga ∧ j ≤ gb := by
  have ha' := Int.ofNat_le.mp ha
  have hb' := Int.ofNat_le.mp hb
  by_cases hc : n ≤ fa + gb
  · have h1 : fb ≤ n - fa := Nat.le_sub_of_add_le (by rw [Nat.add_comm]; exact h.1)
    have h2 : n - fa ≤ gb := Nat.sub_le_of_le_add (by rw [Nat.add_comm]; exact hc)
    exact ⟨fa, n - fa, Nat.add_sub_of_le (Nat.le_trans (Nat.le_add_right _ _) h.1), ⟨Int.le_refl _, ha⟩, ⟨Int.ofNat_le.mpr h1, Int.ofNat_le.mpr h2⟩, ha', h2⟩
  · have hc := Nat.le_of_lt (Nat.not_le.mp hc)
    have h1 : fa ≤ n - gb := Nat.le_sub_of_add_le hc
    have h2 : n - gb ≤ ga := Nat.sub_le_of_le_add h.2
    exact ⟨n - gb, gb, Nat.sub_add_cancel (Nat.le_trans (Nat.le_add_left _ _) hc), ⟨Int.ofNat_le.mpr h1, Int.ofNat_le.mpr h2⟩, ⟨hb, Int.le_refl _⟩, h2, Nat.le_refl _⟩
theorem eq_least {l A B mA mB M : Int} (h3 : l ≤ A + B) (h4 : M ≤ l) (h5 : A = mA) (h6 : B = mB) (hM : M = mA + mB) : l = M := by lia
theorem rng_ends {fa fb ga gb : Nat} : ((ga + gb : Nat) : Int) + 1 - ((fa + fb : Nat) : Int) = ((ga + gb + 1 : Nat) : Int) - ((fa + fb : Nat) : Int) ∧ (((ga + gb + 1 : Nat) : Int) - ((fa + fb : Nat) : Int)).toNat = ga + gb + 1 - (fa + fb) := ⟨rfl, Int.toNat_sub _ _⟩
theorem left_mul {r x y : Int} {i j n : Nat} (h : i + j = n) : x + y - r * (n : Int) = (x - r * (i : Int)) + (y - r * (j : Int)) := by
  subst h
  rw [show ((i + j : Nat) : Int) = (i : Int) + (j : Int) from rfl, Int.mul_add]
  lia
theorem left_le {l x y c : Int} {a b : Int} (h : l ≤ x + y) (e : x + y - c = a + b) : l - c ≤ a + b := by rw [← e]; exact Int.sub_le_sub_right h c
theorem lowest_is {p0 p1 p2 p3 q0 q1 q2 q3 : Int} (c1 : p1 - p0 ≤ p2 - p1) (c2 : p2 - p1 ≤ p3 - p2) (c3 : q1 - q0 ≤ q2 - q1) (c4 : q2 - q1 ≤ q3 - q2) {r M f m : Int}
    (hf : bl (p1 - p0) (p2 - p1) (p3 - p2) r + (bl (q1 - q0) (q2 - q1) (q3 - q2) r + 0) = f) (hm : br (p1 - p0) (p2 - p1) (p3 - p2) r + (br (q1 - q0) (q2 - q1) (q3 - q2) r + 0) = m)
    (h1 : M ∈ (List.range 7).map (left (LS p0 p1 p2 p3 q0 q1 q2 q3) r)) (h2 : ∀ x ∈ (List.range 7).map (left (LS p0 p1 p2 p3 q0 q1 q2 q3) r), M ≤ x) :
    low (LS p0 p1 p2 p3 q0 q1 q2 q3) r M 7 = rangeKs f (m + 1 - f).toNat := by
  have sP : Srt (g4 p0 p1 p2 p3) := ⟨c1, c2⟩
  have sQ : Srt (g4 q0 q1 q2 q3) := ⟨c3, c4⟩
  obtain ⟨mA, a1, a2, a3⟩ := g_min sP r
  obtain ⟨mB, b1, b2, b3⟩ := g_min sQ r
  have eA : ∀ x, bl (g4 p0 p1 p2 p3 1 - g4 p0 p1 p2 p3 0) (g4 p0 p1 p2 p3 2 - g4 p0 p1 p2 p3 1) (g4 p0 p1 p2 p3 3 - g4 p0 p1 p2 p3 2) x = bl (p1 - p0) (p2 - p1) (p3 - p2) x := fun _ => rfl
  have eA' : ∀ x, br (g4 p0 p1 p2 p3 1 - g4 p0 p1 p2 p3 0) (g4 p0 p1 p2 p3 2 - g4 p0 p1 p2 p3 1) (g4 p0 p1 p2 p3 3 - g4 p0 p1 p2 p3 2) x = br (p1 - p0) (p2 - p1) (p3 - p2) x := fun _ => rfl
  have eB : ∀ x, bl (g4 q0 q1 q2 q3 1 - g4 q0 q1 q2 q3 0) (g4 q0 q1 q2 q3 2 - g4 q0 q1 q2 q3 1) (g4 q0 q1 q2 q3 3 - g4 q0 q1 q2 q3 2) x = bl (q1 - q0) (q2 - q1) (q3 - q2) x := fun _ => rfl
  have eB' : ∀ x, br (g4 q0 q1 q2 q3 1 - g4 q0 q1 q2 q3 0) (g4 q0 q1 q2 q3 2 - g4 q0 q1 q2 q3 1) (g4 q0 q1 q2 q3 3 - g4 q0 q1 q2 q3 2) x = br (q1 - q0) (q2 - q1) (q3 - q2) x := fun _ => rfl
  rw [eA, eA'] at a2 a3
  rw [eB, eB'] at b2 b3
  have lA := bl_b (p1 - p0) (p2 - p1) (p3 - p2) r
  have uA := br_b (p1 - p0) (p2 - p1) (p3 - p2) r
  have lB := bl_b (q1 - q0) (q2 - q1) (q3 - q2) r
  have uB := br_b (q1 - q0) (q2 - q1) (q3 - q2) r
  generalize bl (p1 - p0) (p2 - p1) (p3 - p2) r = fA at *
  generalize br (p1 - p0) (p2 - p1) (p3 - p2) r = gA at *
  generalize bl (q1 - q0) (q2 - q1) (q3 - q2) r = fB at *
  generalize br (q1 - q0) (q2 - q1) (q3 - q2) r = gB at *
  obtain ⟨fa, fa3, rfl⟩ := nat_of lA
  obtain ⟨ga, ga3, rfl⟩ := nat_of uA
  obtain ⟨fb, fb3, rfl⟩ := nat_of lB
  obtain ⟨gb, gb3, rfl⟩ := nat_of uB
  clear lA uA lB uB
  obtain rfl : f = ((fa + fb : Nat) : Int) := by rw [← hf, Int.add_zero]; rfl
  obtain rfl : m = ((ga + gb : Nat) : Int) := by rw [← hm, Int.add_zero]; rfl
  clear hf hm
  have at_ : ∀ n, n < 7 → ∃ i j : Nat, i + j = n ∧ i ≤ 3 ∧ j ≤ 3 ∧ left (LS p0 p1 p2 p3 q0 q1 q2 q3) r n = (g4 p0 p1 p2 p3 i - r * (i : Int)) + (g4 q0 q1 q2 q3 j - r * (j : Int)) := fun n hn => by
    obtain ⟨i, j, hij, ho, e⟩ := LS_at sP sQ hn
    refine ⟨i, j, hij, ho.1, ho.2.1, ?_⟩
    unfold left
    rw [e]
    exact left_mul hij
  have le_ : ∀ n, n < 7 → ∀ k l : Nat, k + l = n → k ≤ 3 → l ≤ 3 → left (LS p0 p1 p2 p3 q0 q1 q2 q3) r n ≤ (g4 p0 p1 p2 p3 k - r * (k : Int)) + (g4 q0 q1 q2 q3 l - r * (l : Int)) := fun n hn k l hkl hk hl => by
    obtain ⟨i, j, hij, ho, e⟩ := LS_at sP sQ hn
    have := opt_le sP sQ ho hk hl (hkl.trans hij.symm)
    rw [← e] at this
    exact left_le this (left_mul hkl)
  have hM : M = mA + mB := by
    refine Int.le_antisymm ?_ ?_
    · have hn := sum7 fa3 fb3
      exact le_chain (h2 _ (List.mem_map.mpr ⟨_, List.mem_range.mpr hn, rfl⟩)) (le_ _ hn fa fb rfl fa3 fb3) ((a2 fa fa3).mpr ⟨Int.le_refl _, a3⟩) ((b2 fb fb3).mpr ⟨Int.le_refl _, b3⟩)
    · obtain ⟨n, hn, rfl⟩ := List.mem_map.mp h1
      obtain ⟨i, j, hij, hi, hj, e⟩ := at_ n (List.mem_range.mp hn)
      rw [e]
      exact Int.add_le_add (a1 i hi) (b1 j hj)
  have iff_ : ∀ n, n < 7 → (left (LS p0 p1 p2 p3 q0 q1 q2 q3) r n = M ↔ fa + fb ≤ n ∧ n ≤ ga + gb) := fun n hn => by
    constructor
    · intro h
      obtain ⟨i, j, hij, hi, hj, e⟩ := at_ n hn
      have h5 := eq_both e h hM (a1 i hi) (b1 j hj)
      exact in_rng hij ((a2 i hi).mp h5.1) ((b2 j hj).mp h5.2)
    · intro h
      obtain ⟨i, j, hij, hi, hj, hi3, hj3⟩ := of_rng a3 b3 h
      have hi4 := Nat.le_trans hi3 ga3
      have hj4 := Nat.le_trans hj3 gb3
      exact eq_least (le_ n hn i j hij hi4 hj4) (h2 _ (List.mem_map.mpr ⟨n, List.mem_range.mpr hn, rfl⟩)) ((a2 i hi4).mpr hi) ((b2 j hj4).mpr hj) hM
  unfold low
  have hfil : ((List.range 7).filter fun n => decide (left (LS p0 p1 p2 p3 q0 q1 q2 q3) r n = M)) = (List.range 7).filter fun n => decide (fa + fb ≤ n ∧ n ≤ ga + gb) :=
    List.filter_congr fun n hn => by
      have := iff_ n (List.mem_range.mp hn)
      exact decide_eq_decide.mpr this
  rw [hfil, low_fin _ (sum7 fa3 fb3) _ (sum7 ga3 gb3), rng_ends.1, rng_ends.2]
end Mine
end

section
open PySem PySem.W PyProof.Rows
set_option Elab.async false
set_option maxRecDepth 100000
set_option maxHeartbeats 8000000
open PySem.Calls PyProof.V PySem.Spec PyProof.Rows.LCg
namespace Mine
/-- a comprehension whose variable a block within it captures: for x in range(..), x a cell -/
theorem newEnv_cell {M : Model} {A : Around} {E : Value → Shared → Prop} {s : Shared} {scope : Scope} {cl : List (Str × Addr)} {x : Str} {env : Env} {Q : Env → Shared → Prop}
    (hpc : ∀ h : Heap, pushCells h scope.names = h.push { cls := .type "cell", data := .cell none }) (hcf : ∀ n, cellsFrom n scope.names cl = (x, n) :: cl)
    (hQ : Q { scope := scope, locals := s.heap.objs.size, globals := env.globals, cells := (x, s.heap.objs.size + 1) :: cl, qual := env.qual, func := none, code := env.code, frame := env.frame, builtins := env.builtins }
      { s with heap := (s.heap.push { cls := .type "dict", data := .dict #[] }).push { cls := .type "cell", data := .cell none } }) :
    wpAny M A (newFunctionEnv scope env.globals cl [] env.qual none .none (some env)) Q E s := by
  simp only [newFunctionEnv, Option.isSome_some, if_true]
  refine wpAny_bind (wpAny_alloc ?_)
  refine wpAny_bind (wpAny_layCells _ (fun name kind cells => by cases hkc : kind == NameKind.cell <;> simp [hkc]) _ _ _ _ ?_)
  dsimp only
  rw [hpc, hcf, Heap.size_push]
  refine wpAny_bind ?_
  rw [List.forIn_nil]
  exact wpAny_pure (wpAny_pure hQ)
section
variable {prog : Program} {w : World} {A : Around} {E : Value → Shared → Prop} {s : Shared} {h₀ : Heap} {L : Addr} {m : Str → Option Value} {env : Env}
noncomputable def CrTurn (prog : Program) (w : World) (A : Around) (h₀ : Heap) (L : Addr) (m : Str → Option Value) (env : Env) (elt : PySem.Expr) (x : Str) (scope : Scope) (cl : List (Str × Addr)) (s : Shared) (a : Int) (n : Nat) (news : List (Addr × Obj)) (J : Nat → List Value → Prop) : Prop :=
  ∀ (i : Nat) (t : Tok) (ys : List Value) (I : Addr) (oI : Obj) (C : Addr) (oC : Obj) (c : Addr) (oX : Obj) (D : Addr) (m₂ : Str → Option Value) (h : Heap) (tk : Nat) (E' : Value → Shared → Prop), i < n → J i ys → NsObj oC m₂ → oX.data = .cell (some (.int (a + (i : Int)) t)) →
    Fr h₀ L h m → News h₀ L h ((I, oI) :: (C, oC) :: (c, oX) :: (D, lst ys) :: news) →
    wpAny (model prog w) A (eval elt (compEnvC scope ((x, c) :: cl) C env)) (EnEnd h₀ L m { s with heap := h, toks := tk } ((I, oI) :: (C, oC) :: (c, oX) :: (D, lst ys) :: news) (fun y => J (i + 1) (ys ++ [y]))) E' { s with heap := h, toks := tk }
end
noncomputable def cr_blockz_in : { PRED : Program → World → Around → (Value → Shared → Prop) → Heap → Addr → (Str → Option Value) → Env → PySem.Expr → PySem.Expr → Str → Pos → Scope → (List (Str × Addr)) → Pos → Shared → Addr → Int → Nat → (List (Addr × Obj)) → (Nat → List Value → Prop) → (Value → Addr → Result → Shared → Prop) → Prop // (∀ (prog : Program) (w : World) (A : Around) (E : Value → Shared → Prop) (h₀ : Heap) (L : Addr) (m : Str → Option Value) (env : Env) (elt : PySem.Expr) (iter : PySem.Expr) (x : Str) (px : Pos) (scope : Scope) (cl : List (Str × Addr)) (pos : Pos) (s₂ : Shared) (I : Addr) (a : Int) (n : Nat) (news : List (Addr × Obj)) (J : Nat → List Value → Prop) (RR : Value → Addr → Result → Shared → Prop), PRED prog w A E h₀ L m env elt iter x px scope cl pos s₂ I a n news J RR) → (∀ (prog : Program) (w : World) (A : Around) (E : Value → Shared → Prop) (h₀ : Heap) (L : Addr) (m : Str → Option Value) (env : Env) (elt : PySem.Expr) (iter : PySem.Expr) (x : Str) (px : Pos) (scope : Scope) (cl : List (Str × Addr)) (pos : Pos) (s₂ : Shared) (I : Addr) (a : Int) (n : Nat) (news : List (Addr × Obj)) (J : Nat → List Value → Prop) (RR : Value → Addr → Result → Shared → Prop) (hh : A.handled = none) (hsz : n ≤ sizeLine) (hI : IsRangeIter s₂.heap I (a + ((0 : Nat) : Int) * 1) ((n : Int) - ((0 : Nat) : Int)) 1) (hI₀ : h₀.get? I = none) (off : ∀ p ∈ news, p.1 ≠ I) (hLI : L ≠ I) (hpc : ∀ h : Heap, pushCells h scope.names = h.push { cls := .type "cell", data := .cell none }) (hcf : ∀ n, cellsFrom n scope.names cl = (x, n) :: cl) (hkind : scope.kind = .function) (hxk : ∀ c C, (compEnvC scope ((x, c) :: cl) C env).kindOf x = some .cell) (F : Fr h₀ L s₂.heap m) (N : News h₀ L s₂.heap news) (J0 : J 0 []) (turn : CrTurn prog w A h₀ L m env elt x scope cl s₂ a n news J) (hRR : ∀ D C h tk m' ys, Fr h₀ L h m → News h₀ L h ((D, lst ys) :: news) → (∀ p ∈ news, p.1 ≠ D) → h.Ns C m' → h₀.get? C = none → h₀.get? D = none → C ≠ L → D ≠ L → C ≠ D → (∀ p ∈ news, p.1 ≠ C) → J n ys → RR (.ref D) C (.ok .next) { s₂ with heap := h, toks := tk }),
    wpAny (model prog w) A (newList []) (fun acc s₃ => wpAny (model prog w) A (newFunctionEnv scope env.globals cl [] env.qual none .none (some env)) (fun cenv s₄ =>
      codeAny (model prog w) A (.compStart (.ListComp elt [⟨.Name x px, iter, [], 0⟩] scope pos) 0 (.ref I) acc { cenv with scope := relabel scope env }) (RR acc cenv.locals) s₄) E s₃) E s₂) } :=
  ⟨_, fun HYP => by
  intro prog w A E h₀ L m env elt iter x px scope cl pos s₂ I a n news J RR hh hsz hI hI₀ off hLI hpc hcf hkind hxk F N J0 turn hRR
  revert hRR; revert turn; revert J0; revert N; revert F; revert hxk; revert hkind; revert hcf; revert hpc; revert hLI; revert off; revert hI₀; revert hI; revert hsz; revert hh
  revert RR; revert J; revert news; revert n; revert a; revert I; revert s₂; revert pos; revert cl; revert scope; revert px; revert x; revert iter; revert elt; revert env; revert m; revert L; revert h₀; revert E; revert A; revert w; revert prog
  exact HYP⟩
noncomputable def cr_blockz_B : Program × World × Around × (Value → Shared → Prop) × Heap × Addr × (Str → Option Value) × Env × PySem.Expr × PySem.Expr × Str × Pos × Scope × (List (Str × Addr)) × Pos × Shared × Addr × Int × Nat × (List (Addr × Obj)) × (Nat → List Value → Prop) × (Value → Addr → Result → Shared → Prop) → Prop := fun v => cr_blockz_in.1 v.1 v.2.1 v.2.2.1 v.2.2.2.1 v.2.2.2.2.1 v.2.2.2.2.2.1 v.2.2.2.2.2.2.1 v.2.2.2.2.2.2.2.1 v.2.2.2.2.2.2.2.2.1 v.2.2.2.2.2.2.2.2.2.1 v.2.2.2.2.2.2.2.2.2.2.1 v.2.2.2.2.2.2.2.2.2.2.2.1 v.2.2.2.2.2.2.2.2.2.2.2.2.1 v.2.2.2.2.2.2.2.2.2.2.2.2.2.1 v.2.2.2.2.2.2.2.2.2.2.2.2.2.2.1 v.2.2.2.2.2.2.2.2.2.2.2.2.2.2.2.1 v.2.2.2.2.2.2.2.2.2.2.2.2.2.2.2.2.1 v.2.2.2.2.2.2.2.2.2.2.2.2.2.2.2.2.2.1 v.2.2.2.2.2.2.2.2.2.2.2.2.2.2.2.2.2.2.1 v.2.2.2.2.2.2.2.2.2.2.2.2.2.2.2.2.2.2.2.1 v.2.2.2.2.2.2.2.2.2.2.2.2.2.2.2.2.2.2.2.2.1 v.2.2.2.2.2.2.2.2.2.2.2.2.2.2.2.2.2.2.2.2.2
noncomputable def cr_blockz_v : Program × World × Around × (Value → Shared → Prop) × Heap × Addr × (Str → Option Value) × Env × PySem.Expr × PySem.Expr × Str × Pos × Scope × (List (Str × Addr)) × Pos × Shared × Addr × Int × Nat × (List (Addr × Obj)) × (Nat → List Value → Prop) × (Value → Addr → Result → Shared → Prop) := Classical.choose (drink ⟨(default, Classical.choice neWorld, {}, default, default, default, default, default, default, default, default, default, default, default, default, {}, default, default, default, default, default, default)⟩ cr_blockz_B)
theorem cr_blockz_s : cr_blockz_B cr_blockz_v → ∀ v, cr_blockz_B v := by
  with_unfolding_all exact Classical.choose_spec (drink ⟨(default, Classical.choice neWorld, {}, default, default, default, default, default, default, default, default, default, default, default, default, {}, default, default, default, default, default, default)⟩ cr_blockz_B)
namespace cr_blockzK
noncomputable def prog : Program := cr_blockz_v.1
noncomputable def w : World := cr_blockz_v.2.1
noncomputable def A : Around := cr_blockz_v.2.2.1
noncomputable def E : Value → Shared → Prop := cr_blockz_v.2.2.2.1
noncomputable def h₀ : Heap := cr_blockz_v.2.2.2.2.1
noncomputable def L : Addr := cr_blockz_v.2.2.2.2.2.1
noncomputable def m : Str → Option Value := cr_blockz_v.2.2.2.2.2.2.1
noncomputable def env : Env := cr_blockz_v.2.2.2.2.2.2.2.1
noncomputable def elt : PySem.Expr := cr_blockz_v.2.2.2.2.2.2.2.2.1
noncomputable def iter : PySem.Expr := cr_blockz_v.2.2.2.2.2.2.2.2.2.1
noncomputable def x : Str := cr_blockz_v.2.2.2.2.2.2.2.2.2.2.1
noncomputable def px : Pos := cr_blockz_v.2.2.2.2.2.2.2.2.2.2.2.1
noncomputable def scope : Scope := cr_blockz_v.2.2.2.2.2.2.2.2.2.2.2.2.1
noncomputable def cl : List (Str × Addr) := cr_blockz_v.2.2.2.2.2.2.2.2.2.2.2.2.2.1
noncomputable def pos : Pos := cr_blockz_v.2.2.2.2.2.2.2.2.2.2.2.2.2.2.1
noncomputable def s₂ : Shared := cr_blockz_v.2.2.2.2.2.2.2.2.2.2.2.2.2.2.2.1
noncomputable def I : Addr := cr_blockz_v.2.2.2.2.2.2.2.2.2.2.2.2.2.2.2.2.1
noncomputable def a : Int := cr_blockz_v.2.2.2.2.2.2.2.2.2.2.2.2.2.2.2.2.2.1
noncomputable def n : Nat := cr_blockz_v.2.2.2.2.2.2.2.2.2.2.2.2.2.2.2.2.2.2.1
noncomputable def news : List (Addr × Obj) := cr_blockz_v.2.2.2.2.2.2.2.2.2.2.2.2.2.2.2.2.2.2.2.1
noncomputable def J : Nat → List Value → Prop := cr_blockz_v.2.2.2.2.2.2.2.2.2.2.2.2.2.2.2.2.2.2.2.2.1
noncomputable def RR : Value → Addr → Result → Shared → Prop := cr_blockz_v.2.2.2.2.2.2.2.2.2.2.2.2.2.2.2.2.2.2.2.2.2
end cr_blockzK
open Mine.cr_blockzK in
theorem cr_blockz_c : cr_blockz_in.1 prog w A E h₀ L m env elt iter x px scope cl pos s₂ I a n news J RR := by
  unfold cr_blockz_in
  dsimp only
  intro hh hsz hI hI₀ off hLI hpc hcf hkind hxk F N J0 turn hRR
  refine wpAny_newObj_type (newEnv_cell hpc hcf ?_)
  dsimp only
  generalize hH2 : s₂.heap.push { cls := .type "list", dict := none, data := .seq ([] : List Value).toArray } = H2
  have hC : H2.objs.size = s₂.heap.objs.size + 1 := by rw [← hH2, Heap.size_push]
  generalize hh₁ : (H2.push { cls := .type "dict", data := .dict #[] }).push { cls := .type "cell", data := .cell none } = h₁
  have hDC : s₂.heap.objs.size ≠ H2.objs.size := by rw [hC]; exact Nat.ne_of_lt (Nat.lt_succ_self _)
  have hDX : s₂.heap.objs.size ≠ H2.objs.size + 1 := by rw [hC]; exact Nat.ne_of_lt (Nat.lt_succ_of_lt (Nat.lt_succ_self _))
  have hCX : H2.objs.size ≠ H2.objs.size + 1 := Nat.ne_of_lt (Nat.lt_succ_self _)
  have below : ∀ b, b < s₂.heap.objs.size → b ≠ H2.objs.size ∧ b ≠ s₂.heap.objs.size ∧ b ≠ H2.objs.size + 1 := fun b hb => ⟨by rw [hC]; exact Nat.ne_of_lt (Nat.lt_succ_of_lt hb), Nat.ne_of_lt hb, by rw [hC]; exact Nat.ne_of_lt (Nat.lt_succ_of_lt (Nat.lt_succ_of_lt hb))⟩
  have hIlt : I < s₂.heap.objs.size := Heap.lt_size hI
  have oldk : ∀ b o, s₂.heap.get? b = some o → h₁.get? b = some o := fun b o e => hh₁ ▸ Heap.get?_push_of_some _ (Heap.get?_push_of_some _ (hH2 ▸ Heap.get?_push_of_some _ e))
  have hacc : h₁.get? s₂.heap.objs.size = some (lst []) := hh₁ ▸ Heap.get?_push_of_some _ (Heap.get?_push_of_some _ (hH2 ▸ Heap.get?_push_size _ rfl))
  have hns₁ : h₁.Ns H2.objs.size (fun _ => none) := hh₁ ▸ (Heap.Ns.new H2 (.type "dict")).keeps fun b o e => Heap.get?_push_of_some _ e
  have hcx₁ : h₁.IsCell (H2.objs.size + 1) none := ⟨{ cls := .type "cell", data := .cell none }, by
    have := Heap.get?_push_size (H2.push { cls := .type "dict", data := .dict #[] }) (o := { cls := .type "cell", data := .cell none }) rfl
    rw [Heap.size_push] at this
    rw [← hh₁]; exact this, rfl⟩
  have fresh : ∀ a, s₂.heap.objs.size ≤ a → s₂.heap.get? a = none := fun a ha => by
    cases e : s₂.heap.get? a with
    | none => rfl
    | some o' => exact absurd (Heap.lt_size e) (Nat.not_lt.mpr ha)
  have fresh₀ : ∀ a, s₂.heap.objs.size ≤ a → h₀.get? a = none := fun a ha => by
    cases e : h₀.get? a with
    | none => rfl
    | some o' => have := F.keep a o' e; rw [fresh a ha] at this; cases this
  have hD₀ : h₀.get? s₂.heap.objs.size = none := fresh₀ _ (Nat.le_refl _)
  have hC₀ : h₀.get? H2.objs.size = none := fresh₀ _ (by rw [hC]; exact Nat.le_succ _)
  have hX₀ : h₀.get? (H2.objs.size + 1) = none := fresh₀ _ (by rw [hC]; exact Nat.le_succ_of_le (Nat.le_succ _))
  have hLlt : L < s₂.heap.objs.size := F.ns.lt
  have hDL : s₂.heap.objs.size ≠ L := Ne.symm (below L hLlt).2.1
  have hCL : H2.objs.size ≠ L := Ne.symm (below L hLlt).1
  have hXL : H2.objs.size + 1 ≠ L := Ne.symm (below L hLlt).2.2
  have hCI : I ≠ H2.objs.size := (below I hIlt).1
  have hDI : I ≠ s₂.heap.objs.size := (below I hIlt).2.1
  have hXI : I ≠ H2.objs.size + 1 := (below I hIlt).2.2
  have offC : ∀ p ∈ news, p.1 ≠ H2.objs.size := fun p hp => (below _ (Heap.lt_size (N p hp).1)).1
  have offD : ∀ p ∈ news, p.1 ≠ s₂.heap.objs.size := fun p hp => (below _ (Heap.lt_size (N p hp).1)).2.1
  have offX : ∀ p ∈ news, p.1 ≠ H2.objs.size + 1 := fun p hp => (below _ (Heap.lt_size (N p hp).1)).2.2
  have W := range_walks (prog := prog) (w := w) (I := I) hh a n
  have loop : ∀ s₃ : Shared, s₃ = { s₂ with heap := h₁ } →
      codeAny (model prog w) A (.compLoop (.ListComp elt [⟨.Name x px, iter, [], 0⟩] scope pos) 0 (.ref I) (.ref s₂.heap.objs.size) (compEnvC scope ((x, H2.objs.size + 1) :: cl) H2.objs.size env))
        (RR (.ref s₂.heap.objs.size) H2.objs.size) s₃ := by
    rintro s₃ rfl
    refine codeAny_compLoop_tests
      (fun k s' => ∃ h' tk i ys m' v₀, s' = { s₂ with heap := h', toks := tk } ∧ i ≤ n ∧ k = n + 1 - i ∧ ys.length = i ∧ IsRangeIter h' I (a + (i : Nat) * 1) ((n : Int) - (i : Nat)) 1 ∧ Fr h₀ L h' m ∧ h'.Ns H2.objs.size m' ∧ h'.IsCell (H2.objs.size + 1) v₀ ∧
        News h₀ L h' ((s₂.heap.objs.size, lst ys) :: news) ∧ J i ys) ?_ (n + 1)
      ⟨h₁, _, 0, [], _, _, rfl, Nat.zero_le _, rfl, rfl, oldk _ _ hI, F.keeps oldk, hns₁, hcx₁, fun p hp => ?_, J0⟩
    · rintro k s' ⟨h', tk, i, ys, m', v₀, rfl, hi, rfl, hyl, hI', F', hn', hc', N', J'⟩
      by_cases hlt : i < n
      · refine W.item i _ _ _ hlt hI' fun v h₂ tk₂ hPv hst₂ hk₂ => ?_
        obtain ⟨t, rfl⟩ := hPv
        have ni : ∀ b, b ≠ I → b ∉ [I] := fun b hb hm => hb (List.mem_singleton.mp hm)
        obtain ⟨oX', hoX', hdX'⟩ := hc'
        have hc₂ : h₂.IsCell (H2.objs.size + 1) v₀ := ⟨oX', hk₂ _ _ (ni _ (Ne.symm hXI)) hoX', hdX'⟩
        refine wpAny_assign_Name (wpAny_storeName_cell (by exact hkind) (hxk _ _) (by simp [compEnvC]) hc₂ fun h₃ hcx₃ hs₃ => ?_)
        refine wpAny_tests_nil ?_
        simp only [if_true]
        have hst₃ : IsRangeIter h₃ I (a + ((i + 1 : Nat) : Int) * 1) ((n : Int) - ((i + 1 : Nat) : Int)) 1 := hs₃.extBut I _ hXI hst₂
        obtain ⟨oX, hoX, hdX⟩ := hcx₃
        have hn₂ : h₂.Ns H2.objs.size m' := hn'.at' fun o e => hk₂ _ o (ni _ (Ne.symm hCI)) e
        obtain ⟨oC, heC, hoC⟩ := ns_obj (hn₂.sameBut hs₃ hCX)
        have F₃ : Fr h₀ L h₃ m := (fr_but F' hk₂ hLI hI₀).change hs₃ hXL hX₀
        have N₂ : News h₀ L h₂ ((s₂.heap.objs.size, lst ys) :: news) := news_but N' hk₂ fun p hp => by
          rcases List.mem_cons.mp hp with rfl | hp
          · exact Ne.symm hDI
          · exact off p hp
        have N₃ : News h₀ L h₃ ((I, _) :: (H2.objs.size, oC) :: (H2.objs.size + 1, oX) :: (s₂.heap.objs.size, lst ys) :: news) := fun p hp => by
          rcases List.mem_cons.mp hp with rfl | hp
          · exact ⟨hst₃, Ne.symm hLI, hI₀⟩
          · rcases List.mem_cons.mp hp with rfl | hp
            · exact ⟨heC, hCL, hC₀⟩
            · rcases List.mem_cons.mp hp with rfl | hp
              · exact ⟨hoX, hXL, hX₀⟩
              · have z := N₂ p hp
                refine ⟨hs₃.extBut _ _ ?_ z.1, z.2⟩
                rcases List.mem_cons.mp hp with rfl | hp
                · exact hDX
                · exact offX p hp
        refine wpAny_mono (turn i t ys I _ H2.objs.size oC (H2.objs.size + 1) oX s₂.heap.objs.size _ h₃ _ _ hlt J' hoC hdX F₃ N₃) (fun y s₄ h₄ => ?_) fun _ _ e => e
        obtain ⟨h₄, tk₄, rfl, F₄, N₄, J₄⟩ := h₄
        have zI := (N₄ (I, _) List.mem_cons_self).1
        have zC := (N₄ (H2.objs.size, oC) (List.mem_cons_of_mem _ List.mem_cons_self)).1
        have zX := (N₄ (H2.objs.size + 1, oX) (List.mem_cons_of_mem _ (List.mem_cons_of_mem _ List.mem_cons_self))).1
        have zD := (N₄ (s₂.heap.objs.size, lst ys) (List.mem_cons_of_mem _ (List.mem_cons_of_mem _ (List.mem_cons_of_mem _ List.mem_cons_self)))).1
        have N₄' : News h₀ L h₄ news := fun p hp => N₄ p (List.mem_cons_of_mem _ (List.mem_cons_of_mem _ (List.mem_cons_of_mem _ (List.mem_cons_of_mem _ hp))))
        refine append_at (hsz := by show ys.toArray.size ≤ sizeLine; rw [List.size_toArray, hyl]; exact Nat.le_trans hi hsz) zD fun h₅ hs₅ hD₅ => ?_
        refine ⟨n + 1 - (i + 1), by omega, h₅, tk₄, i + 1, ys ++ [y], _, _, rfl, hlt, rfl, by rw [List.length_append, List.length_singleton, hyl], hs₅.extBut I _ hDI zI, F₄.change hs₅ hDL hD₀,
          (hoC.ns zC).sameBut hs₅ (Ne.symm hDC), ⟨oX, hs₅.extBut _ _ (Ne.symm hDX) zX, hdX⟩, fun p hp => ?_, J₄⟩
        rcases List.mem_cons.mp hp with rfl | hp
        · exact ⟨hD₅.trans (congrArg some (lst_snoc ys y)), hDL, hD₀⟩
        · exact ⟨hs₅.extBut _ _ (offD p hp) (N₄' p hp).1, (N₄' p hp).2⟩
      · obtain rfl : i = n := Nat.le_antisymm hi (Nat.not_lt.mp hlt)
        refine W.done _ _ _ hI' fun h₂ tk₂ hk₂ => ?_
        exact hRR _ _ h₂ tk₂ _ ys (fr_but F' hk₂ hLI hI₀) (news_but N' hk₂ fun p hp => by
          rcases List.mem_cons.mp hp with rfl | hp
          · exact Ne.symm hDI
          · exact off p hp) offD (hn'.at' fun o e => hk₂ _ o (by simpa using Ne.symm hCI) e) hC₀ hD₀ hCL hDL (Ne.symm hDC) offC J'
    · rcases List.mem_cons.mp hp with rfl | hp
      · exact ⟨hacc, hDL, hD₀⟩
      · exact ⟨oldk _ _ (N p hp).1, (N p hp).2⟩
  exact codeAny_compStart_list (loop _ rfl) (W.self 0 _ _ _ (oldk _ _ hI) (loop _ rfl))
section
variable {prog : Program} {w : World} {A : Around} {E : Value → Shared → Prop} {s : Shared} {h₀ : Heap} {L : Addr} {m : Str → Option Value} {env : Env}
theorem cr_block {elt iter : PySem.Expr} {x : Str} {px : Pos} {scope : Scope} {cl : List (Str × Addr)} {pos : Pos} {s₂ : Shared} {I : Addr} {a : Int} {n : Nat} {news : List (Addr × Obj)}
    {J : Nat → List Value → Prop} {RR : Value → Addr → Result → Shared → Prop}
    (hh : A.handled = none) (hsz : n ≤ sizeLine) (hI : IsRangeIter s₂.heap I (a + ((0 : Nat) : Int) * 1) ((n : Int) - ((0 : Nat) : Int)) 1) (hI₀ : h₀.get? I = none) (off : ∀ p ∈ news, p.1 ≠ I) (hLI : L ≠ I)
    (hpc : ∀ h : Heap, pushCells h scope.names = h.push { cls := .type "cell", data := .cell none }) (hcf : ∀ n, cellsFrom n scope.names cl = (x, n) :: cl)
    (hkind : scope.kind = .function) (hxk : ∀ c C, (compEnvC scope ((x, c) :: cl) C env).kindOf x = some .cell)
    (F : Fr h₀ L s₂.heap m) (N : News h₀ L s₂.heap news) (J0 : J 0 []) (turn : CrTurn prog w A h₀ L m env elt x scope cl s₂ a n news J)
    (hRR : ∀ D C h tk m' ys, Fr h₀ L h m → News h₀ L h ((D, lst ys) :: news) → (∀ p ∈ news, p.1 ≠ D) → h.Ns C m' → h₀.get? C = none → h₀.get? D = none → C ≠ L → D ≠ L → C ≠ D → (∀ p ∈ news, p.1 ≠ C) → J n ys → RR (.ref D) C (.ok .next) { s₂ with heap := h, toks := tk }) :
    wpAny (model prog w) A (newList []) (fun acc s₃ => wpAny (model prog w) A (newFunctionEnv scope env.globals cl [] env.qual none .none (some env)) (fun cenv s₄ =>
      codeAny (model prog w) A (.compStart (.ListComp elt [⟨.Name x px, iter, [], 0⟩] scope pos) 0 (.ref I) acc { cenv with scope := relabel scope env }) (RR acc cenv.locals) s₄) E s₃) E s₂ :=
  (cr_blockz_in.2 (fun prog w A E h₀ L m env elt iter x px scope cl pos s₂ I a n news J RR => cr_blockz_s cr_blockz_c (prog, w, A, E, h₀, L, m, env, elt, iter, x, px, scope, cl, pos, s₂, I, a, n, news, J, RR))) prog w A E h₀ L m env elt iter x px scope cl pos s₂ I a n news J RR hh hsz hI hI₀ off hLI hpc hcf hkind hxk F N J0 turn hRR
noncomputable def CrSrc (prog : Program) (w : World) (A : Around) (h₀ : Heap) (L : Addr) (m : Str → Option Value) (env : Env) (elt : PySem.Expr) (x : Str) (scope : Scope) (cl : List (Str × Addr)) (Fin : Shared → List Value → List (Addr × Obj) → Prop) (xv : Value) (s₁ : Shared) : Prop :=
  ∃ (r : Addr) (a b : Int) (t u v : Tok) (n : Nat) (news : List (Addr × Obj)) (J : Nat → List Value → Prop), xv = .ref r ∧ A.handled = none ∧ Fr h₀ L s₁.heap m ∧ News h₀ L s₁.heap news ∧ IsRange s₁.heap r a b 1 t u v ∧ Builtin.Range.small a b 1 = true ∧ Builtin.Range.rangeSize a b 1 = ((n : Nat) : Int) ∧ n ≤ sizeLine ∧
    J 0 [] ∧ (∀ g, CrTurn prog w A h₀ L m env elt x scope cl { s₁ with heap := g } a n news J) ∧ (∀ g ys, J n ys → Fin { s₁ with heap := g } ys news)
theorem ListComp_cell {elt iter : PySem.Expr} {x : Str} {px : Pos} {scope : Scope} {cl : List (Str × Addr)} {pos : Pos} {Q : Value → Shared → Prop} (F₀ : Fr h₀ L s.heap m)
    (hclos : closureFor scope env = pure cl) (hpc : ∀ h : Heap, pushCells h scope.names = h.push { cls := .type "cell", data := .cell none }) (hcf : ∀ n, cellsFrom n scope.names cl = (x, n) :: cl)
    (hkind : scope.kind = .function) (hnames : ∀ y ∈ scope.names, y.2 = .local → scope.names.lookup y.1 = some .local) (hxk : ∀ c C, (compEnvC scope ((x, c) :: cl) C env).kindOf x = some .cell)
    (h : wpAny (model prog w) A (eval iter env) (CrSrc prog w A h₀ L m env elt x scope cl (fun s₂ => FinE h₀ L m s₂ Q)) E s)
    (hs : ∀ x, foldedSetIterable iter env x = pure x := by intro _; rfl) :
    wpAny (model prog w) A (eval (.ListComp elt [⟨.Name x px, iter, [], 0⟩] scope pos) env) Q E s := by
  rw [eval_ListComp]
  refine wpAny_comprehension_free (use := none) rfl hs hclos hkind hnames (wpAny_mono h (fun xv s₁ h₁ => ?_) fun _ _ e => e)
  obtain ⟨r, a, b, t, u, v, n, news, J, rfl, hh, F, N, hr, hsm, hn, hsz, J0, turn, fin⟩ := h₁
  refine wpAny_pyIter_range hr hsm ?_
  refine cr_block hh hsz (by show IsRangeIter _ _ _ _ _; rw [hn]; simpa using Heap.get?_push_size _ rfl) (next_is_new F) (fun p hp => Nat.ne_of_lt (Heap.lt_size (N p hp).1)) (Nat.ne_of_lt F.ns.lt) hpc hcf hkind hxk
    (F.keeps fun _ _ e => Heap.get?_push_of_some _ e) (N.grown fun _ _ e => Heap.get?_push_of_some _ e) J0 (turn _) ?_
  intro D C h tk m' ys F' N' offD hn hC₀ hD₀ hCL hDL hCD offC hJ
  refine ⟨m', hn, fun h'' hs'' => fin s₁.heap ys hJ D h'' tk (F'.change hs'' hCL hC₀) (fun p hp => ?_) (off1_of offD)⟩
  refine ⟨hs''.extBut _ _ ?_ (N' p hp).1, (N' p hp).2⟩
  rcases List.mem_cons.mp hp with rfl | hp
  · exact Ne.symm hCD
  · exact offC p hp
theorem CrSrc.range {elt : PySem.Expr} {x : Str} {scope : Scope} {cl : List (Str × Addr)} {Fin : Shared → List Value → List (Addr × Obj) → Prop} {r : Addr} {a b : Int} {t u v : Tok} {n : Nat} {news : List (Addr × Obj)} {s₁ : Shared} (J : Nat → List Value → Prop)
    (hh : A.handled = none) (F : Fr h₀ L s₁.heap m) (N : News h₀ L s₁.heap news) (hr : IsRange s₁.heap r a b 1 t u v) (hsm : Builtin.Range.small a b 1 = true) (hn : Builtin.Range.rangeSize a b 1 = ((n : Nat) : Int)) (hsz : n ≤ sizeLine) (J0 : J 0 [])
    (turn : ∀ g, CrTurn prog w A h₀ L m env elt x scope cl { s₁ with heap := g } a n news J) (fin : ∀ g ys, J n ys → Fin { s₁ with heap := g } ys news) : CrSrc prog w A h₀ L m env elt x scope cl Fin (.ref r) s₁ :=
  ⟨r, a, b, t, u, v, n, news, J, rfl, hh, F, N, hr, hsm, hn, hsz, J0, turn, fin⟩
theorem comp_invT {ct elt : PySem.Expr} {x : Str} {scope : Scope} {cl : List (Str × Addr)} {S : List (Addr × Obj) → Prop} {P : Nat → Value → Prop} {Fin : List Value → List (Addr × Obj) → Prop} {n : Nat} (J : Nat → List Value → List (Addr × Obj) → Prop)
    (turn : ∀ i v I oI C oC D m₂ h tk (E' : Value → Shared → Prop) ys nx, i < n → J i ys nx → P i v → LCg.NsObj oC m₂ → m₂ x = some v → Fr h₀ L h m → News h₀ L h ((I, oI) :: (C, oC) :: (D, LCg.lst ys) :: nx) → LCg.Off3 I C D nx → ((@Ne Nat I C) ∧ (@Ne Nat I D) ∧ (@Ne Nat C D)) →
      wpAny (model prog w) A (isTrue ct (compEnvC scope cl C env) (eval ct (compEnvC scope cl C env))) (fun ok s' => if ok = true then
        wpAny (model prog w) A (eval elt (compEnvC scope cl C env)) (LCg.CompEnd h₀ L m { s with heap := h, toks := tk } I oI C oC D (LCg.lst ys) S (fun y news' => J (i + 1) (ys ++ [y]) news')) E' s'
        else LCg.CompEnd h₀ L m { s with heap := h, toks := tk } I oI C oC D (LCg.lst ys) S (fun _ news' => J (i + 1) ys news') Value.none s') E' { s with heap := h, toks := tk })
    (fin : ∀ ys nx, J n ys nx → Fin ys nx) : ∀ k i ys nx, i + k = n → J i ys nx → LCt.CompRestT prog w A h₀ L m env ct elt x scope cl s S P Fin k i ys nx := by
  intro k
  induction k with
  | zero =>
    intro i ys nx hi hJ
    have : i = n := by omega
    subst this
    exact LCt.CompRestT.zero (fin ys nx hJ)
  | succ k ih =>
    intro i ys nx hi hJ
    refine LCt.CompRestT.succ fun v I oI C oC D m₂ h tk E' hP hC hx F N off ne => ?_
    refine wpAny_mono (turn i v I oI C oC D m₂ h tk E' ys nx (by omega) hJ hP hC hx F N off ne) (fun ok s₂ q => ?_) fun _ _ e => e
    cases ok with
    | true =>
      simp only [if_true] at q ⊢
      refine wpAny_mono q (fun y s₃ q => ?_) fun _ _ e => e
      obtain ⟨h', tk', news', e, F', N', off', hS, j⟩ := q
      exact ⟨h', tk', news', e, F', N', off', hS, ih (i + 1) _ _ (by omega) j⟩
    | false =>
      simp only [Bool.false_eq_true, if_false] at q ⊢
      obtain ⟨h', tk', news', e, F', N', off', hS, j⟩ := q
      exact ⟨h', tk', news', e, F', N', off', hS, ih (i + 1) _ _ (by omega) j⟩
end
end Mine
end

section
open PySem PySem.W PyProof.Rows
set_option Elab.async false
set_option maxRecDepth 100000
set_option maxHeartbeats 8000000
namespace Mine
section
variable {prog : Program} {w : World} {A : Around} {E : Value → Shared → Prop} {s : Shared} {env : Env} {h₀ : Heap} {body : List Stmt} {Q : Flow → Shared → Prop}
/-- for x in range(a, b), whatever kind of name x is -/
theorem range_turns {x : Str} {px : Pos} {r : Addr} {a b : Int} {t₀ u₀ v₀ : Tok} {n : Nat} {m₀ : Str → Option Value} {news : List (Addr × Obj)} (J : Addr → Nat → (Str → Option Value) → List (Addr × Obj) → Prop)
    (hh : A.handled = none) (F : Fr h₀ env.locals s.heap m₀) (N : News h₀ env.locals s.heap news) (hr : IsRange s.heap r a b 1 t₀ u₀ v₀) (hsm : Builtin.Range.small a b 1 = true) (hn : Builtin.Range.rangeSize a b 1 = (n : Int))
    (hj : ∀ I, (∀ p ∈ news, p.1 < I) → J I 0 m₀ news)
    (turn : ∀ I i t m nx h tk oi, (∀ p ∈ news, p.1 < I) → i < n → J I i m nx → Fr h₀ env.locals h m → News h₀ env.locals h (nx ++ [(I, oi)]) →
      wpAny (model prog w) A (assign (.Name x px) env (.int (a + (i : Int)) t)) (fun _ s₂ => wpAny (model prog w) A (execs body env) (InvPostR h₀ env.locals (J I (i + 1)) [(I, oi)] { s with heap := h, toks := tk } Q) E s₂) E { s with heap := h, toks := tk })
    (done : ∀ I m nx h tk, (∀ p ∈ news, p.1 < I) → J I n m nx → Fr h₀ env.locals h m → News h₀ env.locals h nx → Q .next { s with heap := h, toks := tk }) :
    wpAny (model prog w) A (pyIter (.ref r)) (fun it s₂ => TurnsAt prog w A h₀ env (.Name x px) body Q E it s₂) E s := by
  refine wpAny_pyIter_range hr hsm ?_
  have W : Walks prog w A s.heap.objs.size [s.heap.objs.size] [s.heap.objs.size] n (fun i v => i < n ∧ ∃ t, v = .int (a + i * 1) t)
      (fun i h => IsRangeIter h s.heap.objs.size (a + (i : Nat) * 1) ((n : Int) - (i : Nat)) 1) := (Walks.range hh _ a 1 n).bound
  have hI : ∀ p ∈ news, p.1 < s.heap.objs.size := fun p hp => Heap.lt_size (N p hp).1
  have hlen : ((List.range n).map fun (i : Nat) => Itm.tok fun t => Value.int (a + (i : Int)) t).length = n := by simp
  refine ktu_core (tk0 := s.toks) (ws := [(s.heap.objs.size, "range_iterator")]) (keep := []) (xs := (List.range n).map fun (i : Nat) => Itm.tok fun t => Value.int (a + (i : Int)) t) (KTurns.ofWalks W fun i v s Q E st q => ?_) hlen.symm (fun i v h hp => ?_) (fun i h st => ?_) (fun b hb => ?_)
    (fun b hb => by simpa using hb) (fun b hb => ?_) ?_ (fun p hp hm => ?_) ?_ (F.push _) (fun p hp => ⟨Heap.get?_push_of_some _ (N p hp).1, (N p hp).2⟩) trivial ?_
  · exact wpAny_pure q
  · obtain ⟨hlt, t, rfl⟩ := hp
    refine ⟨Itm.tok fun t => Value.int (a + (i : Int)) t, by simp [hlt], t, by rw [Int.mul_one]⟩
  · exact ⟨[(s.heap.objs.size, _)], ⟨⟨rfl, rfl⟩, trivial⟩, fun p hp => by rw [List.mem_singleton.mp hp]; exact st⟩
  · have hb' : b = s.heap.objs.size := by simpa using hb
    rw [hb']
    exact ⟨List.mem_cons_self .., next_is_new F⟩
  · exact .inl (by simpa using hb)
  · intro hm
    exact absurd F.ns.lt ((List.mem_singleton.mp hm) ▸ Nat.lt_irrefl _)
  · exact absurd (hI p hp) ((List.mem_singleton.mp hm) ▸ Nat.lt_irrefl _)
  · show IsRangeIter _ _ _ _ _
    rw [hn]
    simpa using Heap.get?_push_size _ rfl
  · have := items_inv (prog := prog) (w := w) (A := A) (E := E) (s := s) (env := env) (h₀ := h₀) (target := .Name x px) (body := body) (Q := Q) (ws := [(s.heap.objs.size, "range_iterator")]) (keep := []) (xs := (List.range n).map fun (i : Nat) => Itm.tok fun t => Value.int (a + (i : Int)) t) (J s.heap.objs.size)
      (fun i m nx j => trivial) (fun i e v m nx h tk its he hev j F' ho N' => ?_) (fun m nx h tk j F' N' => done _ m nx h tk hI (hlen ▸ j) F' N') n 0 m₀ news (by rw [hlen]; omega) (hj _ hI)
    · simpa using this
    · have hlt : i < n := by have := (List.getElem?_eq_some_iff.mp he).1; rwa [hlen] at this
      have he2 : e = Itm.tok fun t => Value.int (a + (i : Int)) t := by
        have : ((List.range n).map fun (i : Nat) => Itm.tok fun t => Value.int (a + (i : Int)) t)[i]? = some (Itm.tok fun t => Value.int (a + (i : Int)) t) := by simp [hlt]
        rw [this] at he
        exact (Option.some.inj he).symm
      subst he2
      obtain ⟨t, rfl⟩ := hev
      obtain ⟨oi, rfl⟩ := objs_one ho
      exact turn _ i t m nx h tk oi hI hlt j F' N'
end
end Mine
end

local macro_rules | `(tactic| walk_at "subscriptTail Name Slice ref ref") => `(tactic| ((with_reducible show wpAny _ _ (subscriptTail _ (PySem.Expr.Slice _ _ _ _) (Value.ref _) (Value.ref _)) _ _ _); k_dflt (refine' slice3_ints (s := ⟨_, _, _, _, _⟩) ?F ?N ?l ?p ?q ?k ?o ?i ?_ ?s ?t ?z; (case F | N => k_asm); (case l => kmk_list); (case p | q | k => kmk_part); (case o => first | decide | (intro hw; injection hw; omega)); (case i => assumption); (case s => with_unfolding_all rfl); (case t => kmk_pure); (case z => (rw [sizeLine_eq]; omega))); intro D' ws' h' F' N' l1 hI'; (try k_lt l1); (try k_sweep)))
section
theorem Mine.offS8 : True := by
  w_top off
  trivial
open PySem PySem.W PyProof.Rows
set_option Elab.async false
set_option maxRecDepth 100000
set_option maxHeartbeats 8000000
namespace Mine
theorem cells_cons {cm : Str → Option Value} {n : Str} {c : Addr} {r : List (Str × Addr)} {cells : List (Addr × Obj)} (x : CellsAre cm ((n, c) :: r) cells) : ∃ o rest, cells = (c, o) :: rest ∧ o.data = .cell (cm n) ∧ CellsAre cm r rest := by
  cases x with | cons h x => exact ⟨_, _, rfl, h, x⟩
noncomputable def part1_in : { PRED : World → Shared → Shared → (Str → Option Value) → (Str → Option Value) → Addr → Obj → Value → Value → Addr → Addr → (List Int) → Addr → (List Value) → Heap → Nat → (List (Addr × Obj)) → (Flow → Shared → Prop) → (Value → Shared → Prop) → Prop // (∀ (w : World) (s₀ : Shared) (s₁ : Shared) (mg : Str → Option Value) (mb : Str → Option Value) (fa : Addr) (o : Obj) (pm : Value) (doc : Value) (wC : Addr) (w4 : Addr) (ns : List Int) (sl : Addr) (vs : List Value) (h₁ : Heap) (tk₁ : Nat) (cells : List (Addr × Obj)) (qk : Flow → Shared → Prop) (ek : Value → Shared → Prop), PRED w s₀ s₁ mg mb fa o pm doc wC w4 ns sl vs h₁ tk₁ cells qk ek) → PySem.Challenge.rw_pg0216_01.Holds } := by
  refine' ⟨_, fun HYP => ?body⟩
  case body =>
  apply Mine.hd
  k_fill
  intro w s₀ s₁ mg mb G Y fa o pm cd doc dV kV ho hd hcd hD hmg hg args vals as hpre hlay hrd hwl hlo
  have KX := kIn_of Y
  have X := (Ground.X G).1
  have V := (Ground.X G).2
  try w_nolog (first | (have GL := glob_more (Ground.glob G (by first | k_qdec | decide +kernel) (by first | k_qdec | decide +kernel)) V) | (have GL := glob_more (Ground.glob G (by decide +kernel)) V))
  refine Ground.open G ?_
  intro T B D TE TW
  try (refine guard_noD D (by decide +kernel) ?_; clear D)
  obtain ⟨_, _, M⟩ := bmod_of_top T
  have TA := at_of_top T
  try (obtain ⟨_, _, he, B0⟩ := based_of_top T rfl hmg ho hd; have he' : cd = _ := he; subst he'; clear he)
  clear hmg
  wrow_args hpre hlay hrd hwl hlo
  all_goals (
    first | refine callC_kw (enter_call ?_) | refine enter_call ?_ | refine callC_kw (enter_callW ?_) | refine enter_callW ?_ | w_how
    w_top on
    try refine codeAny_mono ?_ (fun _ _ g => GoodW.toG g)
    have K0 := below_caller (Top.heap T))
  have he := Dflts.none hD rfl
  subst he
  have he := Dflts.noKw hD
  subst he
  refine' call_cellsN ?zza ho (fd_plain hd) (Top.nolimit T) hcd ?zzb ?zzc ?zzd fun h₁ tk₁ cells F N0 X0 => ?_
  case zza => decide
  case zzb => exact rfl
  case zzc => exact (kinds_of (by kinds_ok))
  case zzd => decide
  clear hd TA
  k_drop
  (all_goals try k_fold)
  have F0 : Fr s₁.heap s₁.heap.objs.size h₁ (fun _ => none) := by with_unfolding_all exact F
  rename s₁.heap.IsList _ _ => hL
  rename IntsAre _ _ => hI
  rename_i ns _ _ _ _ _ _ _ sl vs _ _ _ _ _ _ _
  clear F
  have hret : ∀ (h' : Heap) (tk' : Nat) (m : Str → Option Value) (news : List (Addr × Obj)), Fr s₁.heap s₁.heap.objs.size h' m → News s₁.heap s₁.heap.objs.size h' news → qk (.ret (.bool true)) { s₁ with heap := h', toks := tk' } := by
    intro h' tk' m news F' N'
    dsimp only [qk]
    wrow_close
  clear_value qk ek
  rename_i wA wB wC w4 hs hlay0 hLL hrr hl2 wD wE wF ra w1 r0 hr2 hc63 hTru
  clear G Y ho hg X V GL B TE TW M hcd hs hlay0 hLL hrr hl2 ra w1 r0 hr2 hTru hD wA wB wD wE wF
  revert hret; revert X0; revert F0; revert N0; revert K0; revert hc63; revert hI; revert hL; revert T; revert KX
  revert ek; revert qk; revert cells; revert tk₁; revert h₁; revert vs; revert sl; revert ns; revert w4; revert wC; revert doc; revert pm; revert o; revert fa; revert mb; revert mg; revert s₁; revert s₀; revert w
  exact HYP
noncomputable def part1_B : World × Shared × Shared × (Str → Option Value) × (Str → Option Value) × Addr × Obj × Value × Value × Addr × Addr × (List Int) × Addr × (List Value) × Heap × Nat × (List (Addr × Obj)) × (Flow → Shared → Prop) × (Value → Shared → Prop) → Prop := fun v => part1_in.1 v.1 v.2.1 v.2.2.1 v.2.2.2.1 v.2.2.2.2.1 v.2.2.2.2.2.1 v.2.2.2.2.2.2.1 v.2.2.2.2.2.2.2.1 v.2.2.2.2.2.2.2.2.1 v.2.2.2.2.2.2.2.2.2.1 v.2.2.2.2.2.2.2.2.2.2.1 v.2.2.2.2.2.2.2.2.2.2.2.1 v.2.2.2.2.2.2.2.2.2.2.2.2.1 v.2.2.2.2.2.2.2.2.2.2.2.2.2.1 v.2.2.2.2.2.2.2.2.2.2.2.2.2.2.1 v.2.2.2.2.2.2.2.2.2.2.2.2.2.2.2.1 v.2.2.2.2.2.2.2.2.2.2.2.2.2.2.2.2.1 v.2.2.2.2.2.2.2.2.2.2.2.2.2.2.2.2.2.1 v.2.2.2.2.2.2.2.2.2.2.2.2.2.2.2.2.2.2
noncomputable def part1_v : World × Shared × Shared × (Str → Option Value) × (Str → Option Value) × Addr × Obj × Value × Value × Addr × Addr × (List Int) × Addr × (List Value) × Heap × Nat × (List (Addr × Obj)) × (Flow → Shared → Prop) × (Value → Shared → Prop) := Classical.choose (drink ⟨(Classical.choice neWorld, {}, {}, default, default, default, default, default, default, default, default, default, default, default, default, default, default, default, default)⟩ part1_B)
theorem part1_s : part1_B part1_v → ∀ v, part1_B v := by
  with_unfolding_all exact Classical.choose_spec (drink ⟨(Classical.choice neWorld, {}, {}, default, default, default, default, default, default, default, default, default, default, default, default, default, default, default, default)⟩ part1_B)
namespace part1K
noncomputable def w : World := part1_v.1
noncomputable def s₀ : Shared := part1_v.2.1
noncomputable def s₁ : Shared := part1_v.2.2.1
noncomputable def mg : Str → Option Value := part1_v.2.2.2.1
noncomputable def mb : Str → Option Value := part1_v.2.2.2.2.1
noncomputable def fa : Addr := part1_v.2.2.2.2.2.1
noncomputable def o : Obj := part1_v.2.2.2.2.2.2.1
noncomputable def pm : Value := part1_v.2.2.2.2.2.2.2.1
noncomputable def doc : Value := part1_v.2.2.2.2.2.2.2.2.1
noncomputable def wC : Addr := part1_v.2.2.2.2.2.2.2.2.2.1
noncomputable def w4 : Addr := part1_v.2.2.2.2.2.2.2.2.2.2.1
noncomputable def ns : List Int := part1_v.2.2.2.2.2.2.2.2.2.2.2.1
noncomputable def sl : Addr := part1_v.2.2.2.2.2.2.2.2.2.2.2.2.1
noncomputable def vs : List Value := part1_v.2.2.2.2.2.2.2.2.2.2.2.2.2.1
noncomputable def h₁ : Heap := part1_v.2.2.2.2.2.2.2.2.2.2.2.2.2.2.1
noncomputable def tk₁ : Nat := part1_v.2.2.2.2.2.2.2.2.2.2.2.2.2.2.2.1
noncomputable def cells : List (Addr × Obj) := part1_v.2.2.2.2.2.2.2.2.2.2.2.2.2.2.2.2.1
noncomputable def qk : Flow → Shared → Prop := part1_v.2.2.2.2.2.2.2.2.2.2.2.2.2.2.2.2.2.1
noncomputable def ek : Value → Shared → Prop := part1_v.2.2.2.2.2.2.2.2.2.2.2.2.2.2.2.2.2.2
end part1K
open Mine.part1K in
noncomputable def part1a_in : { PRED : Obj → Obj → Obj → Obj → Obj → Obj → Obj → Obj → Obj → Obj → Prop // (∀ (o1 : Obj) (o2 : Obj) (o3 : Obj) (o4 : Obj) (o5 : Obj) (o6 : Obj) (o7 : Obj) (o8 : Obj) (o9 : Obj) (o10 : Obj), PRED o1 o2 o3 o4 o5 o6 o7 o8 o9 o10) → part1_in.1 w s₀ s₁ mg mb fa o pm doc wC w4 ns sl vs h₁ tk₁ cells qk ek } := by
  refine' ⟨_, fun HYP => ?body⟩
  case body =>
  unfold part1_in
  dsimp only
  intro KX T hL hI hc63 K0 N0 F0 X0 hret
  generalize cells = zcells at *
  obtain ⟨o1, y1, rfl, d1, Xc1⟩ := cells_cons X0
  clear X0
  obtain ⟨o2, y2, rfl, d2, Xc2⟩ := cells_cons Xc1
  clear Xc1
  obtain ⟨o3, y3, rfl, d3, Xc3⟩ := cells_cons Xc2
  clear Xc2
  obtain ⟨o4, y4, rfl, d4, Xc4⟩ := cells_cons Xc3
  clear Xc3
  obtain ⟨o5, y5, rfl, d5, Xc5⟩ := cells_cons Xc4
  clear Xc4
  obtain ⟨o6, y6, rfl, d6, Xc6⟩ := cells_cons Xc5
  clear Xc5
  obtain ⟨o7, y7, rfl, d7, Xc7⟩ := cells_cons Xc6
  clear Xc6
  obtain ⟨o8, y8, rfl, d8, Xc8⟩ := cells_cons Xc7
  clear Xc7
  obtain ⟨o9, y9, rfl, d9, Xc9⟩ := cells_cons Xc8
  clear Xc8
  obtain ⟨o10, y10, rfl, d10, Xc10⟩ := cells_cons Xc9
  clear Xc9
  cases Xc10
  replace d10 : o10.data = .cell (some (.ref sl)) := by with_unfolding_all exact d10
  replace d1 : o1.data = .cell none := by with_unfolding_all exact d1
  replace d2 : o2.data = .cell none := by with_unfolding_all exact d2
  replace d3 : o3.data = .cell none := by with_unfolding_all exact d3
  replace d4 : o4.data = .cell none := by with_unfolding_all exact d4
  replace d5 : o5.data = .cell none := by with_unfolding_all exact d5
  replace d6 : o6.data = .cell none := by with_unfolding_all exact d6
  replace d7 : o7.data = .cell none := by with_unfolding_all exact d7
  replace d8 : o8.data = .cell none := by with_unfolding_all exact d8
  replace d9 : o9.data = .cell none := by with_unfolding_all exact d9
  revert hret; revert d9; revert d8; revert d7; revert d6; revert d5; revert d4; revert d3; revert d2; revert d1; revert d10; revert F0; revert N0; revert K0; revert hc63; revert hI; revert hL; revert T; revert KX
  revert o10; revert o9; revert o8; revert o7; revert o6; revert o5; revert o4; revert o3; revert o2; revert o1
  exact HYP
noncomputable def part1a_B : Obj × Obj × Obj × Obj × Obj × Obj × Obj × Obj × Obj × Obj → Prop := fun v => part1a_in.1 v.1 v.2.1 v.2.2.1 v.2.2.2.1 v.2.2.2.2.1 v.2.2.2.2.2.1 v.2.2.2.2.2.2.1 v.2.2.2.2.2.2.2.1 v.2.2.2.2.2.2.2.2.1 v.2.2.2.2.2.2.2.2.2
noncomputable def part1a_v : Obj × Obj × Obj × Obj × Obj × Obj × Obj × Obj × Obj × Obj := Classical.choose (drink ⟨(default, default, default, default, default, default, default, default, default, default)⟩ part1a_B)
theorem part1a_s : part1a_B part1a_v → ∀ v, part1a_B v := by
  with_unfolding_all exact Classical.choose_spec (drink ⟨(default, default, default, default, default, default, default, default, default, default)⟩ part1a_B)
namespace part1aK
noncomputable def o1 : Obj := part1a_v.1
noncomputable def o2 : Obj := part1a_v.2.1
noncomputable def o3 : Obj := part1a_v.2.2.1
noncomputable def o4 : Obj := part1a_v.2.2.2.1
noncomputable def o5 : Obj := part1a_v.2.2.2.2.1
noncomputable def o6 : Obj := part1a_v.2.2.2.2.2.1
noncomputable def o7 : Obj := part1a_v.2.2.2.2.2.2.1
noncomputable def o8 : Obj := part1a_v.2.2.2.2.2.2.2.1
noncomputable def o9 : Obj := part1a_v.2.2.2.2.2.2.2.2.1
noncomputable def o10 : Obj := part1a_v.2.2.2.2.2.2.2.2.2
end part1aK
open Mine.part1K Mine.part1aK in
noncomputable def part1b_in : { PRED : (List Value) → (List Int) → Addr → Heap → Nat → Int → Int → Tok → Tok → Prop // (∀ (ys : List Value) (ds : List Int) (DR : Addr) (h2 : Heap) (tk2 : Nat) (mo : Int) (wd : Int) (tmo : Tok) (twd : Tok), PRED ys ds DR h2 tk2 mo wd tmo twd) → part1a_in.1 o1 o2 o3 o4 o5 o6 o7 o8 o9 o10 } := by
  refine' ⟨_, fun HYP => ?body⟩
  case body =>
  unfold part1a_in
  dsimp only
  k_fill
  intro KX T hL hI hc63 K0 N0 F0 d10 d1 d2 d3 d4 d5 d6 d7 d8 d9 hret
  have hlen : ns.length ≤ 63 := by rename ¬ _ < _ => hc; omega
  have hvl := hI.length
  repeat' ((fail_if_success (with_reducible show wpAny _ _ (exec _ _) _ _ _)); (fail_if_success (with_reducible show LCg.CompSrc _ _ _ _ _ _ _ _ _ _ _ _ _ _)); (fail_if_success (with_reducible show LCg.CompEnd _ _ _ _ _ _ _ _ _ _ _ _ _ _)); (fail_if_success (with_reducible show InvPostR _ _ _ _ _ _ _ _)); (fail_if_success (with_reducible show Mid0 _ _ _ _ _ _)); (fail_if_success (with_reducible show WhileStep2 _ _ _ _ _ _ _ _)); (fail_if_success (with_reducible show InvPostN _ _ _ _ _ _ _ _ _)); (fail_if_success (with_reducible show wpAny _ _ (exec (Stmt.While _ _ _ _) _) _ _ _)); (fail_if_success (with_reducible show wpAny _ _ (exec (Stmt.For _ _ _ _ _) _) _ _ _)); first | (k_unfold; (try dsimp only)) | ((with_reducible refine hqk _ _ ?_); (try dsimp only)) | (walk1 <;> (try dsimp only)) | (dsimp only; walk1) | (leave1; walk_say "STEP leave1"; try dsimp only) | fail "no step")
  first | (k_unfold; (try dsimp only)) | ((with_reducible refine hqk _ _ ?_); (try dsimp only)) | (walk1 <;> (try dsimp only)) | (dsimp only; walk1) | (leave1; walk_say "STEP leave1"; try dsimp only) | fail "no step"
  repeat' ((fail_if_success (with_reducible show wpAny _ _ (exec _ _) _ _ _)); (fail_if_success (with_reducible show LCg.CompSrc _ _ _ _ _ _ _ _ _ _ _ _ _ _)); (fail_if_success (with_reducible show LCg.CompEnd _ _ _ _ _ _ _ _ _ _ _ _ _ _)); (fail_if_success (with_reducible show InvPostR _ _ _ _ _ _ _ _)); (fail_if_success (with_reducible show Mid0 _ _ _ _ _ _)); (fail_if_success (with_reducible show WhileStep2 _ _ _ _ _ _ _ _)); (fail_if_success (with_reducible show InvPostN _ _ _ _ _ _ _ _ _)); (fail_if_success (with_reducible show wpAny _ _ (exec (Stmt.While _ _ _ _) _) _ _ _)); (fail_if_success (with_reducible show wpAny _ _ (exec (Stmt.For _ _ _ _ _) _) _ _ _)); first | (k_unfold; (try dsimp only)) | ((with_reducible refine hqk _ _ ?_); (try dsimp only)) | (walk1 <;> (try dsimp only)) | (dsimp only; walk1) | (leave1; walk_say "STEP leave1"; try dsimp only) | fail "no step")
  first | (k_unfold; (try dsimp only)) | ((with_reducible refine hqk _ _ ?_); (try dsimp only)) | (walk1 <;> (try dsimp only)) | (dsimp only; walk1) | (leave1; walk_say "STEP leave1"; try dsimp only) | fail "no step"
  repeat' ((fail_if_success (with_reducible show wpAny _ _ (exec _ _) _ _ _)); (fail_if_success (with_reducible show LCg.CompSrc _ _ _ _ _ _ _ _ _ _ _ _ _ _)); (fail_if_success (with_reducible show LCg.CompEnd _ _ _ _ _ _ _ _ _ _ _ _ _ _)); (fail_if_success (with_reducible show InvPostR _ _ _ _ _ _ _ _)); (fail_if_success (with_reducible show Mid0 _ _ _ _ _ _)); (fail_if_success (with_reducible show WhileStep2 _ _ _ _ _ _ _ _)); (fail_if_success (with_reducible show InvPostN _ _ _ _ _ _ _ _ _)); (fail_if_success (with_reducible show wpAny _ _ (exec (Stmt.While _ _ _ _) _) _ _ _)); (fail_if_success (with_reducible show wpAny _ _ (exec (Stmt.For _ _ _ _ _) _) _ _ _)); first | (k_unfold; (try dsimp only)) | ((with_reducible refine hqk _ _ ?_); (try dsimp only)) | (walk1 <;> (try dsimp only)) | (dsimp only; walk1) | (leave1; walk_say "STEP leave1"; try dsimp only) | fail "no step")
  (rename Fr _ _ _ _ => F1); (rename News _ _ _ _ => N1)
  (refine Assign_enum (F₀ := F1) (by rfl) (by with_unfolding_all rfl) (by with_unfolding_all rfl) (by decide) (by rfl) (by decide) (by rfl) (by rfl) (by decide) (by rfl) (by rfl) ?_)
  repeat' ((fail_if_success (with_reducible show LCg.CompSrc _ _ _ _ _ _ _ _ _ _ _ _ _ _)); (fail_if_success (with_reducible show LCg.CompEnd _ _ _ _ _ _ _ _ _ _ _ _ _ _)); (fail_if_success (with_reducible show InvPostR _ _ _ _ _ _ _ _)); (fail_if_success (with_reducible show Mid0 _ _ _ _ _ _)); (fail_if_success (with_reducible show WhileStep2 _ _ _ _ _ _ _ _)); (fail_if_success (with_reducible show InvPostN _ _ _ _ _ _ _ _ _)); (fail_if_success (with_reducible show wpAny _ _ (exec (Stmt.While _ _ _ _) _) _ _ _)); (fail_if_success (with_reducible show wpAny _ _ (exec (Stmt.For _ _ _ _ _) _) _ _ _)); first | (k_unfold; (try dsimp only)) | ((with_reducible refine hqk _ _ ?_); (try dsimp only)) | (walk1 <;> (try dsimp only)) | (dsimp only; walk1) | (leave1; walk_say "STEP leave1"; try dsimp only) | fail "no step")
  (try clear F1); (try clear N1)
  (rename Fr _ _ _ _ => F1); (rename News _ _ _ _ => N1)
  refine EnSrc.call (fun i ys => ∃ ds : List Int, IntsAre ys ds ∧ ds.length = i ∧ ∀ d ∈ ds, 0 ≤ d ∧ d < 4) (by rfl) F1 N1 (List.mem_cons_self) (by rfl) (by rfl) (by rw [sizeLine_eq]; exact Nat.le_of_ble_eq_true rfl) ⟨[], .nil, rfl, by simp⟩ ?_ ?_
  · clear F1 N1
    intro g
    rintro i v ys t e oE it oI C oC D m₂ h tk E' hv ⟨ds, hds, rfl, hb⟩ hC ha hb2 F2 N2
    have hv2 : ∃ xi tx, v = .int xi tx := by
      simp only [List.getElem?_cons] at hv
      repeat' (split at hv)
      all_goals first | (simp at hv; done) | exact ⟨_, _, (Option.some.inj hv).symm⟩
    obtain ⟨xi, tx, rfl⟩ := hv2
    clear hv
    repeat' ((fail_if_success (with_reducible show wpAny _ _ (subscriptTail _ _ _ _) _ _ _)); (fail_if_success (with_reducible show LCg.CompSrc _ _ _ _ _ _ _ _ _ _ _ _ _ _)); (fail_if_success (with_reducible show LCg.CompEnd _ _ _ _ _ _ _ _ _ _ _ _ _ _)); (fail_if_success (with_reducible show InvPostR _ _ _ _ _ _ _ _)); (fail_if_success (with_reducible show Mid0 _ _ _ _ _ _)); (fail_if_success (with_reducible show WhileStep2 _ _ _ _ _ _ _ _)); (fail_if_success (with_reducible show InvPostN _ _ _ _ _ _ _ _ _)); (fail_if_success (with_reducible show wpAny _ _ (exec (Stmt.While _ _ _ _) _) _ _ _)); (fail_if_success (with_reducible show wpAny _ _ (exec (Stmt.For _ _ _ _ _) _) _ _ _)); first | (k_unfold; (try dsimp only)) | ((with_reducible refine hqk _ _ ?_); (try dsimp only)) | (walk1 <;> (try dsimp only)) | (dsimp only; walk1) | (leave1; walk_say "STEP leave1"; try dsimp only) | fail "no step")
    refine' slice3_ints (s := ⟨_, _, _, _, _⟩) ?zF ?zN ?zl ?zp ?zq ?zk ?zo ?zi ?_ ?zs ?zt ?zz
    (case zF => exact F2)
    (case zN => exact N2)
    (case zl => exact Fr.lst F2 hL)
    (case zp => kmk_part)
    (case zq => kmk_part)
    (case zk => kmk_part)
    (case zo => decide)
    (case zi => exact hI)
    (case zs => with_unfolding_all rfl)
    (case zt => kmk_pure)
    (case zz => (rw [sizeLine_eq]; omega))
    intro D' ws' h' F' N' l1 hI'
    (try k_lt l1)
    clear F2 N2
    repeat' ((fail_if_success (with_reducible show LCg.CompSrc _ _ _ _ _ _ _ _ _ _ _ _ _ _)); (fail_if_success (with_reducible show LCg.CompEnd _ _ _ _ _ _ _ _ _ _ _ _ _ _)); (fail_if_success (with_reducible show InvPostR _ _ _ _ _ _ _ _)); (fail_if_success (with_reducible show Mid0 _ _ _ _ _ _)); (fail_if_success (with_reducible show WhileStep2 _ _ _ _ _ _ _ _)); (fail_if_success (with_reducible show InvPostN _ _ _ _ _ _ _ _ _)); (fail_if_success (with_reducible show wpAny _ _ (exec (Stmt.While _ _ _ _) _) _ _ _)); (fail_if_success (with_reducible show wpAny _ _ (exec (Stmt.For _ _ _ _ _) _) _ _ _)); first | (k_unfold; (try dsimp only)) | ((with_reducible refine hqk _ _ ?_); (try dsimp only)) | (walk1 <;> (try dsimp only)) | (dsimp only; walk1) | (leave1; walk_say "STEP leave1"; try dsimp only) | fail "no step")
    (try clear F2); (try clear N2)
    (rename Fr _ _ _ _ => F1); (rename News _ _ _ _ => N1)
    refine ⟨_, _, rfl, F1, fun p hp => N1 p (List.mem_cons_of_mem _ hp), ds ++ [_], ia_snoc hds, by simp, ?_⟩
    intro d hd
    rcases List.mem_append.mp hd with h | h
    · exact hb d h
    · rw [List.mem_singleton.mp h]
      exact ⟨Int.fmod_nonneg_of_pos _ (by decide), Int.fmod_lt_of_pos _ (by decide)⟩
  · rintro g ys ⟨ds, hds, hdl, hdb⟩
    unfold LCg.FinA
    intro DR h2 tk2 F2 N2 oD
    replace oD := off1_mem oD
    generalize hmo : (if (↑ns.length : Int).fdiv 4 < 1 then (↑ns.length : Int).fdiv 4 else 1) = mo at F2
    generalize hwd : 1 + ((↑ns.length : Int).fdiv 2).fmod 2 = wd at F2
    generalize (if (↑ns.length : Int).fdiv 4 < 1 then _ else _) = tmo at F2
    generalize (tk₁ + 1 + 1 + 1 + 1 + 1 + 1 + 1) = twd at F2
    have hmo2 : mo = 0 ∨ mo = 1 := by
      have : 0 ≤ (↑ns.length : Int).fdiv 4 := Int.fdiv_nonneg (by omega) (by decide)
      split at hmo <;> omega
    have hwd2 : wd = 1 ∨ wd = 2 := by
      have h1 := Int.fmod_nonneg_of_pos ((↑ns.length : Int).fdiv 2) (b := 2) (by decide)
      have h2 := Int.fmod_lt_of_pos ((↑ns.length : Int).fdiv 2) (b := 2) (by decide)
      omega
    have hdl10 : ds.length = 10 := hdl
    have F3 : Fr s₁.heap s₁.heap.objs.size h2 (lk [(Str.ofString "drawn", .ref DR), (Str.ofString "more", .int mo tmo), (Str.ofString "wide", .int wd twd)]) := by
      refine Eq.mp (congrArg (Fr s₁.heap s₁.heap.objs.size h2) ?_) F2
      (refine' feq [Str.ofString "drawn", Str.ofString "more", Str.ofString "wide"] ?fqm ?fqo; (case fqm => (repeat' (first | exact List.forall_mem_nil _ | (refine List.forall_mem_cons.mpr ⟨by with_unfolding_all rfl, ?_⟩)))); (case fqo => (intro y hy; simp only [List.forall_mem_cons, List.not_mem_nil, false_implies, implies_true, and_true] at hy; have hy2 := hy; simp only [← beq_eq_false_iff_ne] at hy2; simp [hy, hy2, List.lookup_cons, lk, lkj, List.contains_cons, List.contains_nil])))
    have N3 : News s₁.heap s₁.heap.objs.size h2 ((DR, LCg.lst ys) :: [(s₁.heap.objs.size + 1 + 1 + 1 + 1 + 1 + 1 + 1 + 1 + 1 + 1, o1), (s₁.heap.objs.size + 1 + 1 + 1 + 1 + 1 + 1 + 1 + 1 + 1, o2), (s₁.heap.objs.size + 1 + 1 + 1 + 1 + 1 + 1 + 1 + 1, o3), (s₁.heap.objs.size + 1 + 1 + 1 + 1 + 1 + 1 + 1, o4), (s₁.heap.objs.size + 1 + 1 + 1 + 1 + 1 + 1, o5), (s₁.heap.objs.size + 1 + 1 + 1 + 1 + 1, o6), (s₁.heap.objs.size + 1 + 1 + 1 + 1, o7), (s₁.heap.objs.size + 1 + 1 + 1, o8), (s₁.heap.objs.size + 1 + 1, o9), (s₁.heap.objs.size + 1, o10)]) := fun p hp => N2 p (by
      rcases List.mem_cons.mp hp with h | h
      · exact h ▸ List.mem_cons_self
      · exact List.mem_cons_of_mem _ (List.mem_cons_of_mem _ h))
    have oD3 : ∀ p ∈ [(s₁.heap.objs.size + 1 + 1 + 1 + 1 + 1 + 1 + 1 + 1 + 1 + 1, o1), (s₁.heap.objs.size + 1 + 1 + 1 + 1 + 1 + 1 + 1 + 1 + 1, o2), (s₁.heap.objs.size + 1 + 1 + 1 + 1 + 1 + 1 + 1 + 1, o3), (s₁.heap.objs.size + 1 + 1 + 1 + 1 + 1 + 1 + 1, o4), (s₁.heap.objs.size + 1 + 1 + 1 + 1 + 1 + 1, o5), (s₁.heap.objs.size + 1 + 1 + 1 + 1 + 1, o6), (s₁.heap.objs.size + 1 + 1 + 1 + 1, o7), (s₁.heap.objs.size + 1 + 1 + 1, o8), (s₁.heap.objs.size + 1 + 1, o9), (s₁.heap.objs.size + 1, o10)], p.1 ≠ DR := fun p hp => oD p (List.mem_cons_of_mem _ hp)
    clear hL hI hc63 hlen hvl d10 hmo hwd hdl oD F2 N2
    (try clear F0); (try clear N0); (try clear F1); (try clear N1)
    dsimp only
    revert oD3; revert N3; revert F3; revert hwd2; revert hmo2; revert hdl10; revert hdb; revert hds; revert d9; revert d8; revert d7; revert d6; revert d5; revert d4; revert d3; revert d2; revert d1; revert hret; revert K0; revert T; revert KX
    revert twd; revert tmo; revert wd; revert mo; revert tk2; revert h2; revert DR; revert ds; revert ys
    exact HYP
noncomputable def part1b_B : (List Value) × (List Int) × Addr × Heap × Nat × Int × Int × Tok × Tok → Prop := fun v => part1b_in.1 v.1 v.2.1 v.2.2.1 v.2.2.2.1 v.2.2.2.2.1 v.2.2.2.2.2.1 v.2.2.2.2.2.2.1 v.2.2.2.2.2.2.2.1 v.2.2.2.2.2.2.2.2
noncomputable def part1b_v : (List Value) × (List Int) × Addr × Heap × Nat × Int × Int × Tok × Tok := Classical.choose (drink ⟨(default, default, default, default, default, default, default, default, default)⟩ part1b_B)
theorem part1b_s : part1b_B part1b_v → ∀ v, part1b_B v := by
  with_unfolding_all exact Classical.choose_spec (drink ⟨(default, default, default, default, default, default, default, default, default)⟩ part1b_B)
namespace part1bK
noncomputable def ys : List Value := part1b_v.1
noncomputable def ds : List Int := part1b_v.2.1
noncomputable def DR : Addr := part1b_v.2.2.1
noncomputable def h2 : Heap := part1b_v.2.2.2.1
noncomputable def tk2 : Nat := part1b_v.2.2.2.2.1
noncomputable def mo : Int := part1b_v.2.2.2.2.2.1
noncomputable def wd : Int := part1b_v.2.2.2.2.2.2.1
noncomputable def tmo : Tok := part1b_v.2.2.2.2.2.2.2.1
noncomputable def twd : Tok := part1b_v.2.2.2.2.2.2.2.2
end part1bK
end Mine
end

section
theorem Mine.offS9 : True := by
  w_top off
  trivial
open PySem PySem.W PyProof.Rows
set_option Elab.async false
set_option maxRecDepth 100000
set_option maxHeartbeats 8000000
namespace Mine
local macro_rules | `(tactic| k_updF) => `(tactic| first | (refine UpdF.head ?_; (repeat' (first | exact List.forall_mem_nil _ | (refine List.forall_mem_cons.mpr ⟨by (show @Ne Nat _ _); omega, ?_⟩)))) | (refine UpdF.tail (by (show @Ne Nat _ _); omega) ?_; k_updF))
theorem news_tail3 {g h : Heap} {L : Addr} {a b c : Addr × Obj} {l : List (Addr × Obj)} (N : News g L h (a :: b :: c :: l)) : News g L h (l ++ [a, b, c]) := fun p hp => N p (by
  rcases List.mem_append.mp hp with h | h
  · exact .tail _ (.tail _ (.tail _ h))
  · exact List.mem_append_left l h)
theorem mid0_two {prog : Program} {w : World} {A : Around} {E : Value → Shared → Prop} {s : Shared} {h₀ : Heap} {L : Addr} {α : Type} {a : Sem α} {b : Sem Flow} {Q : Flow → Shared → Prop} (I : (Str → Option Value) → List (Addr × Obj) → Prop)
    (h : wpAny (model prog w) A a (fun _ s₂ => wpAny (model prog w) A b (Mid0 h₀ L s I) E s₂) E s)
    (hc : ∀ h tk m nx, I m nx → Fr h₀ L h m → News h₀ L h nx → Q .next { s with heap := h, toks := tk }) : wpAny (model prog w) A a (fun _ s₂ => wpAny (model prog w) A b Q E s₂) E s := by
  refine wpAny_mono h (fun _ s₂ h₂ => wpAny_mono h₂ (fun f s' p => ?_) fun _ _ x => x) fun _ _ x => x
  obtain ⟨rfl, h, tk, m, nx, rfl, F, N, i⟩ := p
  exact hc h tk m nx i F N
open Mine.part1K Mine.part1aK Mine.part1bK in
noncomputable def part2z_in : { PRED : PySem.Addr → (List PySem.Value) → PySem.Obj → PySem.Addr → PySem.Obj → PySem.Addr → Nat → PySem.Addr → (List PySem.Value) → PySem.Addr → (List PySem.Value) → PySem.Addr → PySem.Heap → (List (PySem.Addr × PySem.Obj)) → (List Int) → (List Int) → (List Int) → Prop // (∀ (WD : PySem.Addr) (wvs : List PySem.Value) (oW : PySem.Obj) (TL : PySem.Addr) (oT : PySem.Obj) (SL : PySem.Addr) (tk : Nat) (X1 : PySem.Addr) (x1vs : List PySem.Value) (X2 : PySem.Addr) (x2vs : List PySem.Value) (TT : PySem.Addr) (zC : PySem.Heap) (base : List (PySem.Addr × PySem.Obj)) (wns : List Int) (x1s : List Int) (x2s : List Int), PRED WD wvs oW TL oT SL tk X1 x1vs X2 x2vs TT zC base wns x1s x2s) → part1b_in.1 part1bK.ys part1bK.ds part1bK.DR part1bK.h2 part1bK.tk2 part1bK.mo part1bK.wd part1bK.tmo part1bK.twd } :=
  ⟨_, fun HYP => by
  unfold part1b_in
  dsimp only
  k_fill
  intro KX T K0 hret d1 d2 d3 d4 d5 d6 d7 d8 d9 hds hdb hdl10 hmo2 hwd2 F3 N3 oD3
  simp only [List.forall_mem_cons, List.not_mem_nil, false_implies, implies_true, and_true] at oD3
  refine wpAny_noRaise ?_
  repeat' ((fail_if_success (with_reducible show LCg.CompSrc _ _ _ _ _ _ _ _ _ _ _ _ _ _)); (fail_if_success (with_reducible show LCg.CompEnd _ _ _ _ _ _ _ _ _ _ _ _ _ _)); (fail_if_success (with_reducible show InvPostR _ _ _ _ _ _ _ _)); (fail_if_success (with_reducible show Mid0 _ _ _ _ _ _)); (fail_if_success (with_reducible show WhileStep2 _ _ _ _ _ _ _ _)); (fail_if_success (with_reducible show InvPostN _ _ _ _ _ _ _ _ _)); (fail_if_success (with_reducible show wpAny _ _ (exec (Stmt.While _ _ _ _) _) _ _ _)); (fail_if_success (with_reducible show wpAny _ _ (exec (Stmt.For _ _ _ _ _) _) _ _ _)); first | (k_unfold; (try dsimp only)) | ((with_reducible refine hqk _ _ ?_); (try dsimp only)) | (walk1 <;> (try dsimp only)) | (dsimp only; walk1) | (leave1; walk_say "STEP leave1"; try dsimp only) | fail "no step")
  rename_i WD wvs z1 iW lW z2 oW dW zt1 TL z3 lT z4 oT dT SL z5 lS z6 F1 N1
  (with_unfolding_all refine' For_turns F1 ?_)
  repeat' ((fail_if_success (with_reducible show wpAny _ _ (pyIter _) _ _ _)); (fail_if_success (with_reducible show LCg.CompSrc _ _ _ _ _ _ _ _ _ _ _ _ _ _)); (fail_if_success (with_reducible show LCg.CompEnd _ _ _ _ _ _ _ _ _ _ _ _ _ _)); (fail_if_success (with_reducible show InvPostR _ _ _ _ _ _ _ _)); (fail_if_success (with_reducible show Mid0 _ _ _ _ _ _)); (fail_if_success (with_reducible show WhileStep2 _ _ _ _ _ _ _ _)); (fail_if_success (with_reducible show InvPostN _ _ _ _ _ _ _ _ _)); (fail_if_success (with_reducible show wpAny _ _ (exec (Stmt.While _ _ _ _) _) _ _ _)); (fail_if_success (with_reducible show wpAny _ _ (exec (Stmt.For _ _ _ _ _) _) _ _ _)); first | (k_unfold; (try dsimp only)) | ((with_reducible refine hqk _ _ ?_); (try dsimp only)) | (walk1 <;> (try dsimp only)) | (dsimp only; walk1) | (leave1; walk_say "STEP leave1"; try dsimp only) | fail "no step")
  rename_i X1 x1vs zA iX1 lX1 X2 x2vs zB iX2 lX2 TT zC F2 N2 lTT
  have N4 := news_tail3 N2
  have hTT : (TT, ({ cls := .type "tuple", data := .seq #[Value.ref X1, Value.ref X2] } : Obj)) ∈ [(TT, ({ cls := .type "tuple", data := .seq #[Value.ref X1, Value.ref X2] } : Obj)), (X2, listOf x2vs.toArray 0), (X1, listOf x1vs.toArray 0)] := .head _
  have hX2 : (X2, listOf x2vs.toArray 0) ∈ [(TT, ({ cls := .type "tuple", data := .seq #[Value.ref X1, Value.ref X2] } : Obj)), (X2, listOf x2vs.toArray 0), (X1, listOf x1vs.toArray 0)] := .tail _ (.head _)
  have hX1 : (X1, listOf x1vs.toArray 0) ∈ [(TT, ({ cls := .type "tuple", data := .seq #[Value.ref X1, Value.ref X2] } : Obj)), (X2, listOf x2vs.toArray 0), (X1, listOf x1vs.toArray 0)] := .tail _ (.tail _ (.head _))
  have hBS : ∀ p ∈ [(TT, ({ cls := .type "tuple", data := .seq #[Value.ref X1, Value.ref X2] } : Obj)), (X2, listOf x2vs.toArray 0), (X1, listOf x1vs.toArray 0)], SL < p.1 := by
    refine List.forall_mem_cons.mpr ⟨?_, List.forall_mem_cons.mpr ⟨?_, List.forall_mem_cons.mpr ⟨?_, List.forall_mem_nil _⟩⟩⟩ <;> (show @LT.lt Nat _ _ _; omega)
  generalize [(TT, ({ cls := .type "tuple", data := .seq #[Value.ref X1, Value.ref X2] } : Obj)), (X2, listOf x2vs.toArray 0), (X1, listOf x1vs.toArray 0)] = base at *
  simp only [List.cons_append, List.nil_append] at N4
  have ⟨qW1, qW2⟩ := pick_word hdl10 hdb hwd2
  have ⟨q11, q12⟩ := pick_t1 hdl10 hdb hmo2
  have ⟨q21, q22⟩ := pick_t2 hdl10 hdb hmo2
  generalize pickI ds none (some wd) none = wns at *
  generalize pickI ds (some 2) (some (5 + mo)) none = x1s at *
  generalize pickI ds (some 6) (some (8 + 2 * mo)) none = x2s at *
  revert q22; revert q21; revert iX2; revert q12; revert q11; revert iX1; revert qW2; revert qW1; revert iW; revert hBS; revert hX1; revert hX2; revert hTT; revert N4; revert lTT; revert N2; revert F2; revert lX2; revert lX1; revert lS; revert dT; revert lT; revert dW; revert lW; revert oD3; revert hwd2; revert hmo2; revert hdl10; revert hdb; revert hds; revert d9; revert d8; revert d7; revert d6; revert d5; revert d4; revert d3; revert d2; revert d1; revert hret; revert K0; revert T; revert KX
  revert x2s; revert x1s; revert wns; revert base; revert zC; revert TT; revert x2vs; revert X2; revert x1vs; revert X1; revert tk; revert SL; revert oT; revert TL; revert oW; revert wvs; revert WD
  exact HYP⟩
noncomputable def part2z_B : PySem.Addr × (List PySem.Value) × PySem.Obj × PySem.Addr × PySem.Obj × PySem.Addr × Nat × PySem.Addr × (List PySem.Value) × PySem.Addr × (List PySem.Value) × PySem.Addr × PySem.Heap × (List (PySem.Addr × PySem.Obj)) × (List Int) × (List Int) × (List Int) → Prop := fun v => part2z_in.1 v.1 v.2.1 v.2.2.1 v.2.2.2.1 v.2.2.2.2.1 v.2.2.2.2.2.1 v.2.2.2.2.2.2.1 v.2.2.2.2.2.2.2.1 v.2.2.2.2.2.2.2.2.1 v.2.2.2.2.2.2.2.2.2.1 v.2.2.2.2.2.2.2.2.2.2.1 v.2.2.2.2.2.2.2.2.2.2.2.1 v.2.2.2.2.2.2.2.2.2.2.2.2.1 v.2.2.2.2.2.2.2.2.2.2.2.2.2.1 v.2.2.2.2.2.2.2.2.2.2.2.2.2.2.1 v.2.2.2.2.2.2.2.2.2.2.2.2.2.2.2.1 v.2.2.2.2.2.2.2.2.2.2.2.2.2.2.2.2
noncomputable def part2z_v : PySem.Addr × (List PySem.Value) × PySem.Obj × PySem.Addr × PySem.Obj × PySem.Addr × Nat × PySem.Addr × (List PySem.Value) × PySem.Addr × (List PySem.Value) × PySem.Addr × PySem.Heap × (List (PySem.Addr × PySem.Obj)) × (List Int) × (List Int) × (List Int) := Classical.choose (drink ⟨(default, default, default, default, default, default, default, default, default, default, default, default, default, default, default, default, default)⟩ part2z_B)
theorem part2z_s : part2z_B part2z_v → ∀ v, part2z_B v := by
  with_unfolding_all exact Classical.choose_spec (drink ⟨(default, default, default, default, default, default, default, default, default, default, default, default, default, default, default, default, default)⟩ part2z_B)
namespace part2zK
noncomputable def WD : PySem.Addr := part2z_v.1
noncomputable def wvs : List PySem.Value := part2z_v.2.1
noncomputable def oW : PySem.Obj := part2z_v.2.2.1
noncomputable def TL : PySem.Addr := part2z_v.2.2.2.1
noncomputable def oT : PySem.Obj := part2z_v.2.2.2.2.1
noncomputable def SL : PySem.Addr := part2z_v.2.2.2.2.2.1
noncomputable def tk : Nat := part2z_v.2.2.2.2.2.2.1
noncomputable def X1 : PySem.Addr := part2z_v.2.2.2.2.2.2.2.1
noncomputable def x1vs : List PySem.Value := part2z_v.2.2.2.2.2.2.2.2.1
noncomputable def X2 : PySem.Addr := part2z_v.2.2.2.2.2.2.2.2.2.1
noncomputable def x2vs : List PySem.Value := part2z_v.2.2.2.2.2.2.2.2.2.2.1
noncomputable def TT : PySem.Addr := part2z_v.2.2.2.2.2.2.2.2.2.2.2.1
noncomputable def zC : PySem.Heap := part2z_v.2.2.2.2.2.2.2.2.2.2.2.2.1
noncomputable def base : List (PySem.Addr × PySem.Obj) := part2z_v.2.2.2.2.2.2.2.2.2.2.2.2.2.1
noncomputable def wns : List Int := part2z_v.2.2.2.2.2.2.2.2.2.2.2.2.2.2.1
noncomputable def x1s : List Int := part2z_v.2.2.2.2.2.2.2.2.2.2.2.2.2.2.2.1
noncomputable def x2s : List Int := part2z_v.2.2.2.2.2.2.2.2.2.2.2.2.2.2.2.2
end part2zK
open Mine.part1K Mine.part1aK Mine.part1bK Mine.part2zK in
noncomputable def part2_in : { PRED : (Addr → Nat → Heap → Nat → Obj → (List Value) → (List Value) → Nat → Nat → (List (Addr × Obj)) → Obj → Obj → Obj → (Option Value) → (Option Value) → (Option Value) → (Str → Option Value) → Addr → (List Value) → (List Int) → Prop) × (Addr → Heap → Nat → (List Value) → (List Value) → Nat → Nat → (List (Addr × Obj)) → Obj → Obj → Obj → (Option Value) → (Option Value) → (Option Value) → (Str → Option Value) → Prop) // (∀ (I : Addr) (i : Nat) (h : Heap) (tkq : Nat) (oi : Obj) (ts : List Value) (ss : List Value) (nt : Nat) (nz : Nat) (C : List (Addr × Obj)) (oe : Obj) (of : Obj) (og : Obj) (x5 : Option Value) (x6 : Option Value) (x7 : Option Value) (u : Str → Option Value) (X : Addr) (xvs : List Value) (xs : List Int), PRED.1 I i h tkq oi ts ss nt nz C oe of og x5 x6 x7 u X xvs xs) → (∀ (I : Addr) (h : Heap) (tkq : Nat) (ts : List Value) (ss : List Value) (nt : Nat) (nz : Nat) (C : List (Addr × Obj)) (oe : Obj) (of : Obj) (og : Obj) (x5 : Option Value) (x6 : Option Value) (x7 : Option Value) (u : Str → Option Value), PRED.2 I h tkq ts ss nt nz C oe of og x5 x6 x7 u) → part2z_in.1 part2zK.WD part2zK.wvs part2zK.oW part2zK.TL part2zK.oT part2zK.SL part2zK.tk part2zK.X1 part2zK.x1vs part2zK.X2 part2zK.x2vs part2zK.TT part2zK.zC part2zK.base part2zK.wns part2zK.x1s part2zK.x2s } := by
  refine' ⟨(_, _), fun HYPA HYPB => ?body⟩
  case body =>
  unfold part2z_in
  dsimp only
  k_fill
  intro KX T K0 hret d1 d2 d3 d4 d5 d6 d7 d8 d9 hds hdb hdl10 hmo2 hwd2 oD3 lW dW lT dT lS lX1 lX2 F2 N2 lTT N4 hTT hX2 hX1 hBS iW qW1 qW2 iX1 q11 q12 iX2 q21 q22
  refine' tup_turns (vs := [.ref X1, .ref X2]) (lo := { cls := .type "tuple", data := .seq #[Value.ref X1, Value.ref X2] }) (ax := TT) (fun I i m nx => ∃ (ts ss : List Value) (nt ns : Nat) (C : List (Addr × Obj)) (o5 o6 o7 : Obj) (x5 x6 x7 : Option Value) (u : Str → Option Value), Sh i ts ss C ∧ (∀ p ∈ C, @Ne Nat p.1 I ∧ Apt s₁.heap.objs.size SL TL p.1) ∧ o5.data = .cell x5 ∧ o6.data = .cell x6 ∧ o7.data = .cell x7 ∧
      nx = (SL, listOf ss.toArray ns) :: (TL, listOf ts.toArray nt) :: (WD, listOf wvs.toArray 0) :: (DR, LCg.lst ys) :: (s₁.heap.objs.size + 1 + 1 + 1 + 1 + 1 + 1 + 1 + 1 + 1 + 1, o1) :: (s₁.heap.objs.size + 1 + 1 + 1 + 1 + 1 + 1 + 1 + 1 + 1, o2) :: (s₁.heap.objs.size + 1 + 1 + 1 + 1 + 1 + 1 + 1 + 1, o3) :: (s₁.heap.objs.size + 1 + 1 + 1 + 1 + 1 + 1 + 1, o4) :: (s₁.heap.objs.size + 1 + 1 + 1 + 1 + 1 + 1, o5) :: (s₁.heap.objs.size + 1 + 1 + 1 + 1 + 1, o6) :: (s₁.heap.objs.size + 1 + 1 + 1 + 1, o7) :: (s₁.heap.objs.size + 1 + 1 + 1, oT) :: (s₁.heap.objs.size + 1 + 1, oW) :: (s₁.heap.objs.size + 1, o10) :: (base ++ C) ∧
      m = lkj [Str.ofString "rises"] u [(Str.ofString "steps", .ref SL), (Str.ofString "drawn", .ref DR), (Str.ofString "more", .int mo tmo), (Str.ofString "wide", .int wd twd)])
    rfl F2 N4 ?hm rfl rfl ?hj ?hkeep ?turn ?done
  case hm => simp only [List.mem_cons, List.mem_append, hTT, true_or, or_true]
  case hj =>
    intro I hI
    refine' ⟨[], [], 0, 0, [], o5, o6, o7, none, none, none, ?uA, .nil, List.forall_mem_nil _, d5, d6, d7, by rw [List.append_nil], ?hmA⟩
    case hmA => (refine feqj [Str.ofString "rises"] [Str.ofString "steps", Str.ofString "drawn", Str.ofString "more", Str.ofString "wide"] ?fjm ?fjj ?fjo; (case fjm => (repeat' (first | exact List.forall_mem_nil _ | (refine List.forall_mem_cons.mpr ⟨by with_unfolding_all rfl, ?_⟩)))); (case fjj => decide); (case fjo => (intro y hy hz; simp only [List.forall_mem_cons, List.not_mem_nil, false_implies, implies_true, and_true] at hy; simp only [List.contains_cons, List.contains_nil, Bool.or_false, Bool.or_eq_false_iff] at hz; have hy2 := hy; simp only [← beq_eq_false_iff_ne] at hy2; have hz2 := hz; simp only [beq_eq_false_iff_ne] at hz2; simp [hy, hy2, hz, hz2, List.lookup_cons, lk, lkj])))
  case hkeep =>
    rintro I i m nx ⟨ts, ss, nt, ns, C, o5, o6, o7, x5, x6, x7, u, _, _, _, _, _, rfl, _⟩
    simp only [List.mem_cons, List.mem_append, hTT, true_or, or_true]
  case turn =>
    clear F2 N2 N4
    rintro I i v m nx h tkq oi hI hv ⟨ts, ss, nt, nz, C, oe, of, og, x5, x6, x7, u, hSh, hC, e5, e6, e7, rfl, rfl⟩ F1 N1
    have hSI : SL < I := hI (SL, _) (.head _)
    have hbI : ∀ p ∈ base, p.1 < I := fun p hp => hI p (by simp only [List.mem_cons, hp, or_true])
    obtain ⟨X, xvs, xs, rfl, hX, iX, qX1, qX2⟩ : ∃ X xvs xs, v = .ref X ∧ (X, listOf xvs.toArray 0) ∈ base ∧ IntsAre xvs xs ∧ (2 ≤ xs.length ∧ xs.length ≤ 4) ∧ ∀ d ∈ xs, 0 ≤ d ∧ d < 4 := by
      match i, hv with
      | 0, hv => exact ⟨X1, x1vs, x1s, (Option.some.inj hv).symm, hX1, iX1, q11, q12⟩
      | 1, hv => exact ⟨X2, x2vs, x2s, (Option.some.inj hv).symm, hX2, iX2, q21, q22⟩
    have hi2 : i < 2 := (List.getElem?_eq_some_iff.mp hv).1
    have hts : ts.length ≤ 1 ∧ ss.length ≤ 1 := by
      have := hSh.len
      omega
    clear hi2 hv iX1 q11 q12 iX2 q21 q22
    dsimp only
    replace F1 : Fr s₁.heap s₁.heap.objs.size h _ := F1
    replace N1 : News s₁.heap s₁.heap.objs.size h _ := N1
    clear hds hdb hdl10 hmo2 d5 d6 d7 d8 d9 lX1 lX2 lTT hret hX1 hX2 hTT
    revert N1; revert F1; revert hBS; revert hSI; revert hbI; revert hI; revert hSh; revert hts; revert qX2; revert qX1; revert iX; revert hX; revert e7; revert e6; revert e5; revert hC; revert qW2; revert qW1; revert lS; revert dT; revert lT; revert dW; revert lW; revert iW; revert oD3; revert hwd2; revert d4; revert d3; revert d2; revert d1; revert K0; revert T; revert KX
    revert xs; revert xvs; revert X; revert u; revert x7; revert x6; revert x5; revert og; revert of; revert oe; revert C; revert nz; revert nt; revert ss; revert ts; revert oi; revert tkq; revert h; revert i; revert I
    exact HYPA
  case done =>
    clear F2 N2 N4
    rintro I m nx h tkq hI ⟨ts, ss, nt, nz, C, oe, of, og, x5, x6, x7, u, hSh, hC, e5, e6, e7, rfl, rfl⟩ F1 N1
    have hSI : SL < I := hI (SL, _) (.head _)
    have hR : ∀ p ∈ base ++ C, Apt s₁.heap.objs.size SL TL p.1 := by
      simp only [List.forall_mem_append]
      exact ⟨fun p hp => .of_lt lS.1 lT.2.2.1 (hBS p hp), fun p hp => (hC p hp).2⟩
    replace hSh : Sh 2 ts ss C := hSh
    have F3 : Fr s₁.heap s₁.heap.objs.size h _ := F1
    have N3 : News s₁.heap s₁.heap.objs.size h _ := N1
    clear F1 N1 hI hSI hTT hX1 hX2 hBS hC iX1 q11 q12 iX2 q21 q22
    dsimp only
    clear hds hdb hdl10 hmo2 d5 d6 d7 d8 d9 lX1 lX2 lTT
    revert N3; revert F3; revert hR; revert hSh; revert e7; revert e6; revert e5; revert qW2; revert qW1; revert lS; revert dT; revert lT; revert dW; revert lW; revert iW; revert oD3; revert hwd2; revert d4; revert d3; revert d2; revert d1; revert hret; revert K0; revert T; revert KX
    revert u; revert x7; revert x6; revert x5; revert og; revert of; revert oe; revert C; revert nz; revert nt; revert ss; revert ts; revert tkq; revert h; revert I
    exact HYPB
noncomputable def part2a_B : Addr × Nat × Heap × Nat × Obj × (List Value) × (List Value) × Nat × Nat × (List (Addr × Obj)) × Obj × Obj × Obj × (Option Value) × (Option Value) × (Option Value) × (Str → Option Value) × Addr × (List Value) × (List Int) → Prop := fun v => part2_in.1.1 v.1 v.2.1 v.2.2.1 v.2.2.2.1 v.2.2.2.2.1 v.2.2.2.2.2.1 v.2.2.2.2.2.2.1 v.2.2.2.2.2.2.2.1 v.2.2.2.2.2.2.2.2.1 v.2.2.2.2.2.2.2.2.2.1 v.2.2.2.2.2.2.2.2.2.2.1 v.2.2.2.2.2.2.2.2.2.2.2.1 v.2.2.2.2.2.2.2.2.2.2.2.2.1 v.2.2.2.2.2.2.2.2.2.2.2.2.2.1 v.2.2.2.2.2.2.2.2.2.2.2.2.2.2.1 v.2.2.2.2.2.2.2.2.2.2.2.2.2.2.2.1 v.2.2.2.2.2.2.2.2.2.2.2.2.2.2.2.2.1 v.2.2.2.2.2.2.2.2.2.2.2.2.2.2.2.2.2.1 v.2.2.2.2.2.2.2.2.2.2.2.2.2.2.2.2.2.2.1 v.2.2.2.2.2.2.2.2.2.2.2.2.2.2.2.2.2.2.2
noncomputable def part2a_v : Addr × Nat × Heap × Nat × Obj × (List Value) × (List Value) × Nat × Nat × (List (Addr × Obj)) × Obj × Obj × Obj × (Option Value) × (Option Value) × (Option Value) × (Str → Option Value) × Addr × (List Value) × (List Int) := Classical.choose (drink ⟨(default, default, default, default, default, default, default, default, default, default, default, default, default, default, default, default, default, default, default, default)⟩ part2a_B)
theorem part2a_s : part2a_B part2a_v → ∀ v, part2a_B v := by
  with_unfolding_all exact Classical.choose_spec (drink ⟨(default, default, default, default, default, default, default, default, default, default, default, default, default, default, default, default, default, default, default, default)⟩ part2a_B)
namespace part2aK
noncomputable def I : Addr := part2a_v.1
noncomputable def i : Nat := part2a_v.2.1
noncomputable def h : Heap := part2a_v.2.2.1
noncomputable def tkq : Nat := part2a_v.2.2.2.1
noncomputable def oi : Obj := part2a_v.2.2.2.2.1
noncomputable def ts : List Value := part2a_v.2.2.2.2.2.1
noncomputable def ss : List Value := part2a_v.2.2.2.2.2.2.1
noncomputable def nt : Nat := part2a_v.2.2.2.2.2.2.2.1
noncomputable def nz : Nat := part2a_v.2.2.2.2.2.2.2.2.1
noncomputable def C : List (Addr × Obj) := part2a_v.2.2.2.2.2.2.2.2.2.1
noncomputable def oe : Obj := part2a_v.2.2.2.2.2.2.2.2.2.2.1
noncomputable def of : Obj := part2a_v.2.2.2.2.2.2.2.2.2.2.2.1
noncomputable def og : Obj := part2a_v.2.2.2.2.2.2.2.2.2.2.2.2.1
noncomputable def x5 : Option Value := part2a_v.2.2.2.2.2.2.2.2.2.2.2.2.2.1
noncomputable def x6 : Option Value := part2a_v.2.2.2.2.2.2.2.2.2.2.2.2.2.2.1
noncomputable def x7 : Option Value := part2a_v.2.2.2.2.2.2.2.2.2.2.2.2.2.2.2.1
noncomputable def u : Str → Option Value := part2a_v.2.2.2.2.2.2.2.2.2.2.2.2.2.2.2.2.1
noncomputable def X : Addr := part2a_v.2.2.2.2.2.2.2.2.2.2.2.2.2.2.2.2.2.1
noncomputable def xvs : List Value := part2a_v.2.2.2.2.2.2.2.2.2.2.2.2.2.2.2.2.2.2.1
noncomputable def xs : List Int := part2a_v.2.2.2.2.2.2.2.2.2.2.2.2.2.2.2.2.2.2.2
end part2aK
noncomputable def part2b_B : Addr × Heap × Nat × (List Value) × (List Value) × Nat × Nat × (List (Addr × Obj)) × Obj × Obj × Obj × (Option Value) × (Option Value) × (Option Value) × (Str → Option Value) → Prop := fun v => part2_in.1.2 v.1 v.2.1 v.2.2.1 v.2.2.2.1 v.2.2.2.2.1 v.2.2.2.2.2.1 v.2.2.2.2.2.2.1 v.2.2.2.2.2.2.2.1 v.2.2.2.2.2.2.2.2.1 v.2.2.2.2.2.2.2.2.2.1 v.2.2.2.2.2.2.2.2.2.2.1 v.2.2.2.2.2.2.2.2.2.2.2.1 v.2.2.2.2.2.2.2.2.2.2.2.2.1 v.2.2.2.2.2.2.2.2.2.2.2.2.2.1 v.2.2.2.2.2.2.2.2.2.2.2.2.2.2
noncomputable def part2b_v : Addr × Heap × Nat × (List Value) × (List Value) × Nat × Nat × (List (Addr × Obj)) × Obj × Obj × Obj × (Option Value) × (Option Value) × (Option Value) × (Str → Option Value) := Classical.choose (drink ⟨(default, default, default, default, default, default, default, default, default, default, default, default, default, default, default)⟩ part2b_B)
theorem part2b_s : part2b_B part2b_v → ∀ v, part2b_B v := by
  with_unfolding_all exact Classical.choose_spec (drink ⟨(default, default, default, default, default, default, default, default, default, default, default, default, default, default, default)⟩ part2b_B)
namespace part2bK
noncomputable def I : Addr := part2b_v.1
noncomputable def h : Heap := part2b_v.2.1
noncomputable def tkq : Nat := part2b_v.2.2.1
noncomputable def ts : List Value := part2b_v.2.2.2.1
noncomputable def ss : List Value := part2b_v.2.2.2.2.1
noncomputable def nt : Nat := part2b_v.2.2.2.2.2.1
noncomputable def nz : Nat := part2b_v.2.2.2.2.2.2.1
noncomputable def C : List (Addr × Obj) := part2b_v.2.2.2.2.2.2.2.1
noncomputable def oe : Obj := part2b_v.2.2.2.2.2.2.2.2.1
noncomputable def of : Obj := part2b_v.2.2.2.2.2.2.2.2.2.1
noncomputable def og : Obj := part2b_v.2.2.2.2.2.2.2.2.2.2.1
noncomputable def x5 : Option Value := part2b_v.2.2.2.2.2.2.2.2.2.2.2.1
noncomputable def x6 : Option Value := part2b_v.2.2.2.2.2.2.2.2.2.2.2.2.1
noncomputable def x7 : Option Value := part2b_v.2.2.2.2.2.2.2.2.2.2.2.2.2.1
noncomputable def u : Str → Option Value := part2b_v.2.2.2.2.2.2.2.2.2.2.2.2.2.2
end part2bK
end Mine
end

local macro_rules | `(tactic| k_updF) => `(tactic| first | (refine' UpdF.head ?a; (case a => (repeat' (first | exact List.forall_mem_nil _ | assumption | (refine List.forall_mem_cons.mpr ⟨?_, ?_⟩) | (first | exact Cel.ne7 (by with_reducible assumption) | exact Cel.ne8 (by with_reducible assumption) | exact Cel.ne9 (by with_reducible assumption) | exact Cel.ne10 (by with_reducible assumption) | exact Cel2.ne4 (by with_reducible assumption) | exact Cel2.ne5 (by with_reducible assumption) | exact Cel2.ne6 (by with_reducible assumption) | exact bbne 1 0 rfl | exact bbne 2 0 rfl | exact bbne 3 0 rfl | exact bbne 4 0 rfl | exact bbne 5 0 rfl | exact bbne 6 0 rfl | exact bbne 7 0 rfl | exact bbne 8 0 rfl | exact bbne 9 0 rfl | exact bbne 0 1 rfl | exact bbne 0 2 rfl | exact bbne 0 3 rfl | exact bbne 0 4 rfl | exact bbne 0 5 rfl | exact bbne 0 6 rfl | exact bbne 0 7 rfl | exact bbne 0 8 rfl | exact bbne 0 9 rfl | ((show @Ne Nat _ _); omega)))))) | (refine' UpdF.tail ?a ?b; (case a => (first | exact Cel.ne7 (by with_reducible assumption) | exact Cel.ne8 (by with_reducible assumption) | exact Cel.ne9 (by with_reducible assumption) | exact Cel.ne10 (by with_reducible assumption) | exact Cel2.ne4 (by with_reducible assumption) | exact Cel2.ne5 (by with_reducible assumption) | exact Cel2.ne6 (by with_reducible assumption) | exact bbne 1 0 rfl | exact bbne 2 0 rfl | exact bbne 3 0 rfl | exact bbne 4 0 rfl | exact bbne 5 0 rfl | exact bbne 6 0 rfl | exact bbne 7 0 rfl | exact bbne 8 0 rfl | exact bbne 9 0 rfl | exact bbne 0 1 rfl | exact bbne 0 2 rfl | exact bbne 0 3 rfl | exact bbne 0 4 rfl | exact bbne 0 5 rfl | exact bbne 0 6 rfl | exact bbne 0 7 rfl | exact bbne 0 8 rfl | exact bbne 0 9 rfl | ((show @Ne Nat _ _); omega))); (case b => k_updF)))
section
theorem Mine.offS10 : True := by
  w_top off
  trivial
open PySem PySem.W PyProof.Rows
set_option Elab.async false
set_option maxRecDepth 100000
set_option maxHeartbeats 8000000
namespace Mine
theorem off1_nat {D : Addr} {l : List (Addr × Obj)} (h : LCg.Off1 D l) : ∀ p ∈ l, @Ne Nat p.1 D := off1_mem h
theorem news_fin {g h : Heap} {L : Addr} {a r p b c d q : Addr × Obj} {l base C : List (Addr × Obj)} (N : News g L h (a :: r :: p :: b :: c :: d :: (l ++ (base ++ (C ++ [q]))))) : News g L h ((l ++ (base ++ (p :: r :: C))) ++ [q]) := fun x hx => N x (by
  simp only [List.mem_append, List.mem_cons] at hx ⊢
  rcases hx with (h | h | h | h | h) | h
  all_goals simp only [h, true_or, or_true])
open Mine.part2zK hiding tk in
open Mine.part1K Mine.part1aK Mine.part1bK Mine.part2aK in
noncomputable def part3_in : { PRED : (List (PySem.Addr × PySem.Obj)) → PySem.Obj → PySem.Addr → Nat → PySem.Addr → (List PySem.Value) → Nat → PySem.Heap → Nat → Prop // (∀ (R : List (PySem.Addr × PySem.Obj)) (o7' : PySem.Obj) (WW : PySem.Addr) (n1 : Nat) (DU : PySem.Addr) (duvs : List PySem.Value) (cD : Nat) (h3 : PySem.Heap) (tk3 : Nat), PRED R o7' WW n1 DU duvs cD h3 tk3) → part2_in.1.1 part2aK.I part2aK.i part2aK.h part2aK.tkq part2aK.oi part2aK.ts part2aK.ss part2aK.nt part2aK.nz part2aK.C part2aK.oe part2aK.of part2aK.og part2aK.x5 part2aK.x6 part2aK.x7 part2aK.u part2aK.X part2aK.xvs part2aK.xs } :=
  ⟨_, fun HYP => by
  unfold part2_in
  dsimp only
  k_fill
  intro KX T K0 d1 d2 d3 d4 hwd2 oD3 iW lW dW lT dT lS qW1 qW2 hC e5 e6 e7 hX iX qX1 qX2 hts hSh hI hbI hSI hBS F1 N1
  refine mid0_two (h₀ := s₁.heap) (L := s₁.heap.objs.size) (fun m' nx' => ∃ (P R' : Addr) (pvs rvs : List Value) (np nr ns' nt' : Nat) (o5' o6' o7' : Obj) (x5' x6' x7' : Option Value) (u' : Str → Option Value) (p0 p1 p2 p3 : Int),
    m' = lkj [Str.ofString "rises"] u' [(Str.ofString "steps", .ref SL), (Str.ofString "drawn", .ref DR), (Str.ofString "more", .int mo tmo), (Str.ofString "wide", .int wd twd)] ∧ (@Ne Nat P I ∧ Apt s₁.heap.objs.size SL TL P) ∧ (@Ne Nat R' I ∧ Apt s₁.heap.objs.size SL TL R') ∧ IntsAre pvs [p0, p1, p2, p3] ∧ IntsAre rvs [p1 - p0, p2 - p1, p3 - p2] ∧ p1 - p0 ≤ p2 - p1 ∧ p2 - p1 ≤ p3 - p2 ∧
    o5'.data = .cell x5' ∧ o6'.data = .cell x6' ∧ o7'.data = .cell x7' ∧
    nx' = ((SL, listOf (ss ++ [Value.ref R']).toArray ns') :: (TL, listOf (ts ++ [Value.ref P]).toArray nt') :: (WD, listOf wvs.toArray 0) :: (DR, LCg.lst ys) :: (s₁.heap.objs.size + 1 + 1 + 1 + 1 + 1 + 1 + 1 + 1 + 1 + 1, o1) :: (s₁.heap.objs.size + 1 + 1 + 1 + 1 + 1 + 1 + 1 + 1 + 1, o2) :: (s₁.heap.objs.size + 1 + 1 + 1 + 1 + 1 + 1 + 1 + 1, o3) :: (s₁.heap.objs.size + 1 + 1 + 1 + 1 + 1 + 1 + 1, o4) :: (s₁.heap.objs.size + 1 + 1 + 1 + 1 + 1 + 1, o5') :: (s₁.heap.objs.size + 1 + 1 + 1 + 1 + 1, o6') :: (s₁.heap.objs.size + 1 + 1 + 1 + 1, o7') :: (s₁.heap.objs.size + 1 + 1 + 1, oT) :: (s₁.heap.objs.size + 1 + 1, oW) :: (s₁.heap.objs.size + 1, o10) :: (base ++ ((P, listOf pvs.toArray np) :: (R', listOf rvs.toArray nr) :: C))) ++ [(I, oi)]) ?body ?post
  case post =>
    rintro h' tk' m' nx' ⟨P, R', pvs, rvs, np, nr, ns', nt', o5', o6', o7', x5', x6', x7', u', p0, p1, p2, p3, rfl, hIP, hIR, iP, iR, c1, c2, e5', e6', e7', rfl⟩ F3 N3
    refine InvPostR.next F3 N3 (fun p hp => List.mem_append_left _ hp) (fun p hp => List.mem_append_right _ hp) ?hf ⟨_, _, _, _, _, _, _, _, _, _, _, _, Sh.snoc hSh iP iR c1 c2, List.forall_mem_cons.mpr ⟨hIP, List.forall_mem_cons.mpr ⟨hIR, hC⟩⟩, e5', e6', e7', rfl, rfl⟩
    case hf =>
      intro p hp q hq
      rw [List.mem_singleton.mp hq]
      revert p hp
      simp only [List.forall_mem_cons, List.forall_mem_append] at hI ⊢
      refine ⟨Nat.ne_of_lt hSI, Nat.ne_of_lt hI.2.1, Nat.ne_of_lt hI.2.2.1, Nat.ne_of_lt hI.2.2.2.1, Nat.ne_of_lt hI.2.2.2.2.1, Nat.ne_of_lt hI.2.2.2.2.2.1, Nat.ne_of_lt hI.2.2.2.2.2.2.1, Nat.ne_of_lt hI.2.2.2.2.2.2.2.1, Nat.ne_of_lt hI.2.2.2.2.2.2.2.2.1, Nat.ne_of_lt hI.2.2.2.2.2.2.2.2.2.1, Nat.ne_of_lt hI.2.2.2.2.2.2.2.2.2.2.1, Nat.ne_of_lt hI.2.2.2.2.2.2.2.2.2.2.2.1, Nat.ne_of_lt hI.2.2.2.2.2.2.2.2.2.2.2.2.1, Nat.ne_of_lt hI.2.2.2.2.2.2.2.2.2.2.2.2.2.1, fun p hp => Nat.ne_of_lt (hbI p hp), hIP.1, hIR.1, fun p hp => (hC p hp).1⟩
  case body =>
  have hR : ∀ p ∈ base ++ (C ++ [(I, oi)]), Apt s₁.heap.objs.size SL TL p.1 := by
    simp only [List.forall_mem_append, List.forall_mem_cons]
    exact ⟨fun p hp => .of_lt lS.1 lT.2.2.1 (hBS p hp), fun p hp => (hC p hp).2, .of_lt lS.1 lT.2.2.1 hSI, List.forall_mem_nil _⟩
  have F3 : Fr s₁.heap s₁.heap.objs.size h _ := F1
  have N3 : News s₁.heap s₁.heap.objs.size h _ := N1
  simp only [List.cons_append, List.append_assoc] at N3
  clear F1 N1 hI hbI hSI hBS hSh
  replace K0 : Below callerA s₁.heap [] s₁.heap := K0
  have k2SL : Cel2 s₁.heap.objs.size SL := .of_lt lS.2.2.2.1
  have k2TL : Cel2 s₁.heap.objs.size TL := .of_lt lT.2.2.1
  have k2WD : Cel2 s₁.heap.objs.size WD := .of_lt lW.2.1
  have k2DR : Cel2 s₁.heap.objs.size DR := .mk3 oD3.2.2.2.2.2.2.1 oD3.2.2.2.2.2.1 oD3.2.2.2.2.1
  have nTS : @Ne Nat TL SL := Nat.ne_of_lt lS.1
  clear oD3
  have hX' : (X, listOf xvs.toArray 0) ∈ base ++ (C ++ [(I, oi)]) := List.mem_append_left _ hX
  have hI' : (I, oi) ∈ base ++ (C ++ [(I, oi)]) := List.mem_append_right _ (List.mem_append_right _ (.head _))
  generalize hReq : base ++ (C ++ [(I, oi)]) = R at *
  have hr7 : ∀ p ∈ R, p.1 ≠ s₁.heap.objs.size + 1 + 1 + 1 + 1 := fun p hp => (hR p hp).2.2.2.2.2.1
  have hr6 : ∀ p ∈ R, p.1 ≠ s₁.heap.objs.size + 1 + 1 + 1 + 1 + 1 := fun p hp => (hR p hp).2.2.2.2.2.2.1
  have hr5 : ∀ p ∈ R, p.1 ≠ s₁.heap.objs.size + 1 + 1 + 1 + 1 + 1 + 1 := fun p hp => (hR p hp).2.2.2.2.2.2.2.1
  have hrS : ∀ p ∈ R, p.1 ≠ SL := fun p hp => (hR p hp).1
  have hrT : ∀ p ∈ R, p.1 ≠ TL := fun p hp => (hR p hp).2.1
  repeat' ((fail_if_success (with_reducible show wpAny _ _ (call (Value.ref _) _) _ _ _)); (fail_if_success (with_reducible show LCg.CompSrc _ _ _ _ _ _ _ _ _ _ _ _ _ _)); (fail_if_success (with_reducible show LCg.CompEnd _ _ _ _ _ _ _ _ _ _ _ _ _ _)); (fail_if_success (with_reducible show InvPostR _ _ _ _ _ _ _ _)); (fail_if_success (with_reducible show Mid0 _ _ _ _ _ _)); (fail_if_success (with_reducible show WhileStep2 _ _ _ _ _ _ _ _)); (fail_if_success (with_reducible show InvPostN _ _ _ _ _ _ _ _ _)); (fail_if_success (with_reducible show wpAny _ _ (exec (Stmt.While _ _ _ _) _) _ _ _)); (fail_if_success (with_reducible show wpAny _ _ (exec (Stmt.For _ _ _ _ _) _) _ _ _)); first | (k_unfold; (try dsimp only)) | ((with_reducible refine hqk _ _ ?_); (try dsimp only)) | (walk1 <;> (try dsimp only)) | (dsimp only; walk1) | (leave1; walk_say "STEP leave1"; try dsimp only) | fail "no step")
  rename_i h1 o7' F1 N1 e7' WW h2 F2 N2 iWW n1 hn1 hn2 hn3 hn4 lWW
  have k2WW : Cel2 s₁.heap.objs.size WW := .of_lt lWW.2.2.2.2.1
  refine' spc_use (prices_spc _ _ _ _ _ _ _ _ _ _ _ _ _ ?hsA ?hlA ?isA ?ilA ?hlnA ?hsnA ?hbA ?hbsA) ?k1A ?k2A ?k3A ?k4A ?k5A ?k6A ?k7A ?k8A ?_
  (case k1A => k_asm)
  (case k2A => exact F2)
  (case k3A => k_asm)
  (case k4A => exact N2)
  (case k5A => k_asm)
  (case k6A => first | exact rfl | assumption)
  (case k7A => ktr_room)
  (case k8A => ktr_units)
  (case hsA => k_mem)
  (case hlA => k_mem)
  (case isA => exact iWW)
  (case ilA => exact iX)
  (case hlnA => omega)
  (case hsnA => omega)
  (case hbA => exact qX2)
  (case hbsA => exact flat_b qW2)
  dsimp only [RetL]
  intro DU duvs cD h3 tk3 F3' N3' iDU lDU
  k_lt lDU
  have k2DU : Cel2 s₁.heap.objs.size DU := .of_lt lDU.2.2.2.2.2.1
  clear F1 N1 F2 N2
  have hduL : (prices (List.replicate (Int.toNat 3) wns).flatten xs).length = n1 + 1 := by rw [prices_is, List.length_map, List.length_range]; omega
  revert hduL; revert k2DU; revert lDU; revert iDU; revert N3'; revert F3'; revert k2WW; revert lWW; revert hn4; revert hn3; revert hn2; revert hn1; revert iWW; revert e7'; revert hrT; revert hrS; revert hr5; revert hr6; revert hr7; revert hI'; revert hX'; revert hR; revert hReq; revert nTS; revert k2DR; revert k2WD; revert k2TL; revert k2SL; revert K0; revert hts; revert qX2; revert qX1; revert iX; revert hX; revert e7; revert e6; revert e5; revert hC; revert qW2; revert qW1; revert lS; revert dT; revert lT; revert dW; revert lW; revert iW; revert hwd2; revert d4; revert d3; revert d2; revert d1; revert T; revert KX
  revert tk3; revert h3; revert cD; revert duvs; revert DU; revert n1; revert WW; revert o7'; revert R
  exact HYP⟩
noncomputable def part3_B : (List (PySem.Addr × PySem.Obj)) × PySem.Obj × PySem.Addr × Nat × PySem.Addr × (List PySem.Value) × Nat × PySem.Heap × Nat → Prop := fun v => part3_in.1 v.1 v.2.1 v.2.2.1 v.2.2.2.1 v.2.2.2.2.1 v.2.2.2.2.2.1 v.2.2.2.2.2.2.1 v.2.2.2.2.2.2.2.1 v.2.2.2.2.2.2.2.2
noncomputable def part3_v : (List (PySem.Addr × PySem.Obj)) × PySem.Obj × PySem.Addr × Nat × PySem.Addr × (List PySem.Value) × Nat × PySem.Heap × Nat := Classical.choose (drink ⟨(default, default, default, default, default, default, default, default, default)⟩ part3_B)
theorem part3_s : part3_B part3_v → ∀ v, part3_B v := by
  with_unfolding_all exact Classical.choose_spec (drink ⟨(default, default, default, default, default, default, default, default, default)⟩ part3_B)
namespace part3K
noncomputable def R : List (PySem.Addr × PySem.Obj) := part3_v.1
noncomputable def o7' : PySem.Obj := part3_v.2.1
noncomputable def WW : PySem.Addr := part3_v.2.2.1
noncomputable def n1 : Nat := part3_v.2.2.2.1
noncomputable def DU : PySem.Addr := part3_v.2.2.2.2.1
noncomputable def duvs : List PySem.Value := part3_v.2.2.2.2.2.1
noncomputable def cD : Nat := part3_v.2.2.2.2.2.2.1
noncomputable def h3 : PySem.Heap := part3_v.2.2.2.2.2.2.2.1
noncomputable def tk3 : Nat := part3_v.2.2.2.2.2.2.2.2
end part3K
open Mine.part1K in
open Mine.part1aK in
open Mine.part1bK in
open Mine.part2zK hiding tk in
open Mine.part2aK in
open Mine.part3K in
theorem part3_c : part3_in.1 part3K.R part3K.o7' part3K.WW part3K.n1 part3K.DU part3K.duvs part3K.cD part3K.h3 part3K.tk3 := by
  unfold part3_in
  dsimp only
  k_fill
  intro KX T d1 d2 d3 d4 hwd2 iW lW dW lT dT lS qW1 qW2 hC e5 e6 e7 hX iX qX1 qX2 hts K0 k2SL k2TL k2WD k2DR nTS hReq hR hX' hI' hr7 hr6 hr5 hrS hrT e7' iWW hn1 hn2 hn3 hn4 lWW k2WW F3' N3' iDU lDU k2DU hduL
  --CUT1
  repeat' ((fail_if_success (with_reducible show wpAny _ _ (call (Value.ref _) _) _ _ _)); (fail_if_success (with_reducible show LCg.CompSrc _ _ _ _ _ _ _ _ _ _ _ _ _ _)); (fail_if_success (with_reducible show LCg.CompEnd _ _ _ _ _ _ _ _ _ _ _ _ _ _)); (fail_if_success (with_reducible show InvPostR _ _ _ _ _ _ _ _)); (fail_if_success (with_reducible show Mid0 _ _ _ _ _ _)); (fail_if_success (with_reducible show WhileStep2 _ _ _ _ _ _ _ _)); (fail_if_success (with_reducible show InvPostN _ _ _ _ _ _ _ _ _)); (fail_if_success (with_reducible show wpAny _ _ (exec (Stmt.While _ _ _ _) _) _ _ _)); (fail_if_success (with_reducible show wpAny _ _ (exec (Stmt.For _ _ _ _ _) _) _ _ _)); first | (k_unfold; (try dsimp only)) | ((with_reducible refine hqk _ _ ?_); (try dsimp only)) | (walk1 <;> (try dsimp only)) | (dsimp only; walk1) | (leave1; walk_say "STEP leave1"; try dsimp only) | fail "no step")
  (rename Fr _ _ _ _ => F1); (rename News _ _ _ _ => N1)
  rename IsRange _ _ _ _ _ _ _ _ => iR
  rename_i DD ddvs _ iDD lDD _ o6' _ _ e6' _ _ _ _ _ _
  have k2DD : Cel2 s₁.heap.objs.size DD := .of_lt lDD.2.2.2.2.2.2.1
  obtain ⟨p0, p1, p2, p3, hpk, hlev, c1, c2⟩ := due_is qW1 hwd2 qW2 qX2 qX1
  rw [hpk] at iDD
  have hwl : wns.length ≤ 2 := by omega
  have hwvl := iW.length
  refine LCg.CompSrc.range (n := 4) (by rfl) F1 N1 iR (small_one (by decide) (by decide) (by decide) (by decide)) rfl (by size_fits) ?_
  clear F1
  intro g1
  refine comp_inv (n := 4) (fun i ys nx => nx = (DD, listOf ddvs.toArray 0) :: (DU, listOf duvs.toArray cD) :: (WW, listOf (List.replicate (Int.toNat 3) wvs).flatten.toArray 0) :: (SL, listOf ss.toArray nz) :: (TL, listOf ts.toArray nt) :: (WD, listOf wvs.toArray 0) :: (DR, LCg.lst _) :: (s₁.heap.objs.size + 1 + 1 + 1 + 1 + 1 + 1 + 1 + 1 + 1 + 1, o1) :: (s₁.heap.objs.size + 1 + 1 + 1 + 1 + 1 + 1 + 1 + 1 + 1, o2) :: (s₁.heap.objs.size + 1 + 1 + 1 + 1 + 1 + 1 + 1 + 1, o3) :: (s₁.heap.objs.size + 1 + 1 + 1 + 1 + 1 + 1 + 1, o4) :: (s₁.heap.objs.size + 1 + 1 + 1 + 1 + 1 + 1, oe) :: (s₁.heap.objs.size + 1 + 1 + 1 + 1 + 1, o6') :: (s₁.heap.objs.size + 1 + 1 + 1 + 1, o7') :: (s₁.heap.objs.size + 1 + 1 + 1, oT) :: (s₁.heap.objs.size + 1 + 1, oW) :: (s₁.heap.objs.size + 1, o10) :: R ∧ IntsAre ys ((List.range i).map fun (j : Nat) => [p0, p1, p2, p3].getD j 0)) ?_ ?_ 4 0 [] _ rfl ⟨rfl, .nil⟩
  · clear N1
    rintro i v I2 oI2 C2 oC2 D2 m₂ h tk E' ys nx hi ⟨rfl, iy⟩ ⟨t, rfl⟩ hC2 hx F2 N2 off ne
    refine gen_post1 ?_
    intro CP hCP
    rw [show (0 : Int) + (i : Int) = (i : Int) from by omega] at hx
    have hfl : (List.replicate (i : Int).toNat wns).flatten.length ≤ 40 := by
      rw [Int.toNat_natCast]
      have h1 : (List.replicate i wns).flatten.length = i * wns.length := by simp
      have h2 : i * wns.length ≤ 4 * 2 := Nat.mul_le_mul (by omega) hwl
      omega
    have hflb : ∀ d ∈ (List.replicate (i : Int).toNat wns).flatten, 0 ≤ d ∧ d < 4 := flat_b qW2
    repeat' ((fail_if_success (with_reducible show wpAny _ _ (call (Value.ref _) _) _ _ _)); (fail_if_success (with_reducible show LCg.CompSrc _ _ _ _ _ _ _ _ _ _ _ _ _ _)); (fail_if_success (with_reducible show LCg.CompEnd _ _ _ _ _ _ _ _ _ _ _ _ _ _)); (fail_if_success (with_reducible show InvPostR _ _ _ _ _ _ _ _)); (fail_if_success (with_reducible show Mid0 _ _ _ _ _ _)); (fail_if_success (with_reducible show WhileStep2 _ _ _ _ _ _ _ _)); (fail_if_success (with_reducible show InvPostN _ _ _ _ _ _ _ _ _)); (fail_if_success (with_reducible show wpAny _ _ (exec (Stmt.While _ _ _ _) _) _ _ _)); (fail_if_success (with_reducible show wpAny _ _ (exec (Stmt.For _ _ _ _ _) _) _ _ _)); first | (k_unfold; (try dsimp only)) | ((with_reducible refine hqk _ _ ?_); (try dsimp only)) | (walk1 <;> (try dsimp only)) | (dsimp only; walk1) | (leave1; walk_say "STEP leave1"; try dsimp only) | fail "no step")
    refine KM.mul F2 N2 (News.isList N2 (by k_mem)) iW (by omega) (by omega) (KM.size_of 1048576 16 iW (by omega) (by omega) (by decide)) ?_
    intro Dk hk1 Fk Nk lk1 iWk n1k s1k e1k e2k e3k
    (try k_lt lk1)
    clear F2 N2
    repeat' ((fail_if_success (with_reducible show wpAny _ _ (call (Value.ref _) _) _ _ _)); (fail_if_success (with_reducible show LCg.CompSrc _ _ _ _ _ _ _ _ _ _ _ _ _ _)); (fail_if_success (with_reducible show LCg.CompEnd _ _ _ _ _ _ _ _ _ _ _ _ _ _)); (fail_if_success (with_reducible show InvPostR _ _ _ _ _ _ _ _)); (fail_if_success (with_reducible show Mid0 _ _ _ _ _ _)); (fail_if_success (with_reducible show WhileStep2 _ _ _ _ _ _ _ _)); (fail_if_success (with_reducible show InvPostN _ _ _ _ _ _ _ _ _)); (fail_if_success (with_reducible show wpAny _ _ (exec (Stmt.While _ _ _ _) _) _ _ _)); (fail_if_success (with_reducible show wpAny _ _ (exec (Stmt.For _ _ _ _ _) _) _ _ _)); first | (k_unfold; (try dsimp only)) | ((with_reducible refine hqk _ _ ?_); (try dsimp only)) | (walk1 <;> (try dsimp only)) | (dsimp only; walk1) | (leave1; walk_say "STEP leave1"; try dsimp only) | fail "no step")
    (rename Fr _ _ _ _ => F1); (rename News _ _ _ _ => N1)
    refine' spc_use (spelled_spc _ _ _ _ _ _ _ _ _ ?hlB ?ilB ?hlnB ?hbB) ?k1B ?k2B ?k3B ?k4B ?k5B ?k6B ?k7B ?k8B ?_
    (case k1B => exact K0)
    (case k2B => exact F1)
    (case k3B => k_asm)
    (case k4B => exact N1)
    (case k5B => k_asm)
    (case k6B => first | exact rfl | assumption)
    (case k7B => ktr_room)
    (case k8B => ktr_units)
    (case hlB => k_mem)
    (case ilB => exact iWk)
    (case hlnB => exact hfl)
    (case hbB => exact hflb)
    clear F1 N1
    dsimp only [RetV]
    intro tS hS kS FS NS
    repeat' ((fail_if_success (with_reducible show wpAny _ _ (call (Value.ref _) _) _ _ _)); (fail_if_success (with_reducible show LCg.CompSrc _ _ _ _ _ _ _ _ _ _ _ _ _ _)); (fail_if_success (with_reducible show LCg.CompEnd _ _ _ _ _ _ _ _ _ _ _ _ _ _)); (fail_if_success (with_reducible show InvPostR _ _ _ _ _ _ _ _)); (fail_if_success (with_reducible show Mid0 _ _ _ _ _ _)); (fail_if_success (with_reducible show WhileStep2 _ _ _ _ _ _ _ _)); (fail_if_success (with_reducible show InvPostN _ _ _ _ _ _ _ _ _)); (fail_if_success (with_reducible show wpAny _ _ (exec (Stmt.While _ _ _ _) _) _ _ _)); (fail_if_success (with_reducible show wpAny _ _ (exec (Stmt.For _ _ _ _ _) _) _ _ _)); first | (k_unfold; (try dsimp only)) | ((with_reducible refine hqk _ _ ?_); (try dsimp only)) | (walk1 <;> (try dsimp only)) | (dsimp only; walk1) | (leave1; walk_say "STEP leave1"; try dsimp only) | fail "no step")
    (rename Fr _ _ _ _ => F1); (rename News _ _ _ _ => N1)
    refine' spc_use (spelled_spc _ _ _ _ _ _ _ _ _ ?hlC ?ilC ?hlnC ?hbC) ?k1C ?k2C ?k3C ?k4C ?k5C ?k6C ?k7C ?k8C ?_
    (case k1C => exact K0)
    (case k2C => exact F1)
    (case k3C => k_asm)
    (case k4C => exact N1)
    (case k5C => k_asm)
    (case k6C => first | exact rfl | assumption)
    (case k7C => ktr_room)
    (case k8C => ktr_units)
    (case hlC => k_mem)
    (case ilC => exact iX)
    (case hlnC => omega)
    (case hbC => exact qX2)
    clear F1 N1
    dsimp only [RetV]
    intro tS2 hS2 kS2 FS2 NS2
    repeat' ((fail_if_success (with_reducible show wpAny _ _ (call (Value.ref _) _) _ _ _)); (fail_if_success (with_reducible show LCg.CompSrc _ _ _ _ _ _ _ _ _ _ _ _ _ _)); (fail_if_success (with_reducible show LCg.CompEnd _ _ _ _ _ _ _ _ _ _ _ _ _ _)); (fail_if_success (with_reducible show InvPostR _ _ _ _ _ _ _ _)); (fail_if_success (with_reducible show Mid0 _ _ _ _ _ _)); (fail_if_success (with_reducible show WhileStep2 _ _ _ _ _ _ _ _)); (fail_if_success (with_reducible show InvPostN _ _ _ _ _ _ _ _ _)); (fail_if_success (with_reducible show wpAny _ _ (exec (Stmt.While _ _ _ _) _) _ _ _)); (fail_if_success (with_reducible show wpAny _ _ (exec (Stmt.For _ _ _ _ _) _) _ _ _)); first | (k_unfold; (try dsimp only)) | ((with_reducible refine hqk _ _ ?_); (try dsimp only)) | (walk1 <;> (try dsimp only)) | (dsimp only; walk1) | (leave1; walk_say "STEP leave1"; try dsimp only) | fail "no step")
    refine' spc_use (lev_spc _ _ _ _ _ _ _ _ _ _ _ ?haD ?hbD ?hlaD ?hlbD) ?k1D ?k2D ?k3D ?k4D ?k5D ?k6D ?k7D ?k8D ?_
    (case k1D => exact K0)
    (case k2D => exact FS2)
    (case k3D => k_asm)
    (case k4D => exact NS2)
    (case k5D => k_asm)
    (case k6D => first | exact rfl | assumption)
    (case k7D => ktr_room)
    (case k8D => ktr_units)
    (case haD => exact spell_lt hflb)
    (case hbD => exact spell_lt qX2)
    (case hlaD => rw [spell_len]; exact hfl)
    (case hlbD => rw [spell_len]; omega)
    dsimp only [RetV]
    intro tS3 hS3 kS3 FS3 NS3
    have hlev' : lev (spell (List.replicate (i : Int).toNat wns).flatten) (spell xs) ([p0, p1, p2, p3].getD (i : Int).toNat 0) = [p0, p1, p2, p3].getD i 0 := by rw [Int.toNat_natCast]; exact hlev i hi
    rw [hlev']
    exact hCP _ _ (LCg.CompEnd.intro FS3 NS3 _ (fun p hp => List.mem_cons_of_mem _ hp) off trivial ⟨rfl, ia_range (f := fun (j : Nat) => [p0, p1, p2, p3].getD j 0) iy⟩)
  rintro ys2 nx2 ⟨hnx, iy⟩
  unfold LCg.FinE
  intro PA h tk F2 N2 oPA
  rw [hnx] at N2 oPA
  clear hnx nx2 iR N1
  replace iy : IntsAre ys2 [p0, p1, p2, p3] := iy
  have oPA' := off1_nat oPA
  have hPI : @Ne Nat PA I := fun e => oPA' (I, oi) (by simp only [List.mem_cons, hI', or_true]) e.symm
  simp only [List.forall_mem_cons] at oPA'
  have hPP : Apt s₁.heap.objs.size SL TL PA := .mk12 oPA'.2.2.2.1 oPA'.2.2.2.2.1 oPA'.2.2.2.2.2.2.2.2.2.2.2.2.2.2.2.2.1 oPA'.2.2.2.2.2.2.2.2.2.2.2.2.2.2.2.1 oPA'.2.2.2.2.2.2.2.2.2.2.2.2.2.2.1 oPA'.2.2.2.2.2.2.2.2.2.2.2.2.2.1 oPA'.2.2.2.2.2.2.2.2.2.2.2.2.1 oPA'.2.2.2.2.2.2.2.2.2.2.2.1 oPA'.2.2.2.2.2.2.2.2.2.2.1 oPA'.2.2.2.2.2.2.2.2.2.1 oPA'.2.2.2.2.2.2.2.2.1 oPA'.2.2.2.2.2.2.2.1
  have k2PA : Cel2 s₁.heap.objs.size PA := .mk3 oPA'.2.2.2.2.2.2.2.2.2.2.2.2.2.1 oPA'.2.2.2.2.2.2.2.2.2.2.2.2.1 oPA'.2.2.2.2.2.2.2.2.2.2.2.1
  have nPS : @Ne Nat PA SL := hPP.1
  have nPT : @Ne Nat PA TL := hPP.2.1
  clear oPA oPA'
  dsimp only
  repeat' ((fail_if_success (with_reducible show wpAny _ _ (call (Value.ref _) _) _ _ _)); (fail_if_success (with_reducible show LCg.CompSrc _ _ _ _ _ _ _ _ _ _ _ _ _ _)); (fail_if_success (with_reducible show LCg.CompEnd _ _ _ _ _ _ _ _ _ _ _ _ _ _)); (fail_if_success (with_reducible show InvPostR _ _ _ _ _ _ _ _)); (fail_if_success (with_reducible show Mid0 _ _ _ _ _ _)); (fail_if_success (with_reducible show WhileStep2 _ _ _ _ _ _ _ _)); (fail_if_success (with_reducible show InvPostN _ _ _ _ _ _ _ _ _)); (fail_if_success (with_reducible show wpAny _ _ (exec (Stmt.While _ _ _ _) _) _ _ _)); (fail_if_success (with_reducible show wpAny _ _ (exec (Stmt.For _ _ _ _ _) _) _ _ _)); first | (k_unfold; (try dsimp only)) | ((with_reducible refine hqk _ _ ?_); (try dsimp only)) | (walk1 <;> (try dsimp only)) | (dsimp only; walk1) | (leave1; walk_say "STEP leave1"; try dsimp only) | fail "no step")
  (rename Fr _ _ _ _ => F1); (rename News _ _ _ _ => N1)
  rename IsRange _ _ _ _ _ _ _ _ => iR
  rename_i _ o5' _ _ e5' _ _ _ _ _ _
  refine LCg.CompSrc.range (n := 3) (by rfl) F1 N1 iR (small_one (by decide) (by decide) (by decide) (by decide)) rfl (by size_fits) ?_
  clear F1
  intro g2
  refine comp_inv (n := 3) (fun i ys nx => nx = (PA, LCg.lst ys2) :: (DD, listOf ddvs.toArray 0) :: (DU, listOf duvs.toArray cD) :: (WW, listOf (List.replicate (Int.toNat 3) wvs).flatten.toArray 0) :: (SL, listOf ss.toArray nz) :: (TL, listOf ts.toArray nt) :: (WD, listOf wvs.toArray 0) :: (DR, LCg.lst _) :: (s₁.heap.objs.size + 1 + 1 + 1 + 1 + 1 + 1 + 1 + 1 + 1 + 1, o1) :: (s₁.heap.objs.size + 1 + 1 + 1 + 1 + 1 + 1 + 1 + 1 + 1, o2) :: (s₁.heap.objs.size + 1 + 1 + 1 + 1 + 1 + 1 + 1 + 1, o3) :: (s₁.heap.objs.size + 1 + 1 + 1 + 1 + 1 + 1 + 1, o4) :: (s₁.heap.objs.size + 1 + 1 + 1 + 1 + 1 + 1, o5') :: (s₁.heap.objs.size + 1 + 1 + 1 + 1 + 1, o6') :: (s₁.heap.objs.size + 1 + 1 + 1 + 1, o7') :: (s₁.heap.objs.size + 1 + 1 + 1, oT) :: (s₁.heap.objs.size + 1 + 1, oW) :: (s₁.heap.objs.size + 1, o10) :: R ∧ IntsAre ys ((List.range i).map fun (j : Nat) => [p0, p1, p2, p3].getD (j + 1) 0 - [p0, p1, p2, p3].getD j 0)) ?_ ?_ 3 0 [] _ rfl ⟨rfl, .nil⟩
  · clear N1
    rintro i v I2 oI2 C2 oC2 D2 m₂ h tk E' ys3 nx hi ⟨rfl, iz⟩ ⟨t, rfl⟩ hC2 hx F2 N2 off ne
    rw [show (0 : Int) + (i : Int) = (i : Int) from by omega] at hx
    repeat' ((fail_if_success (with_reducible show wpAny _ _ (call (Value.ref _) _) _ _ _)); (fail_if_success (with_reducible show LCg.CompSrc _ _ _ _ _ _ _ _ _ _ _ _ _ _)); (fail_if_success (with_reducible show LCg.CompEnd _ _ _ _ _ _ _ _ _ _ _ _ _ _)); (fail_if_success (with_reducible show InvPostR _ _ _ _ _ _ _ _)); (fail_if_success (with_reducible show Mid0 _ _ _ _ _ _)); (fail_if_success (with_reducible show WhileStep2 _ _ _ _ _ _ _ _)); (fail_if_success (with_reducible show InvPostN _ _ _ _ _ _ _ _ _)); (fail_if_success (with_reducible show wpAny _ _ (exec (Stmt.While _ _ _ _) _) _ _ _)); (fail_if_success (with_reducible show wpAny _ _ (exec (Stmt.For _ _ _ _ _) _) _ _ _)); first | (k_unfold; (try dsimp only)) | ((with_reducible refine hqk _ _ ?_); (try dsimp only)) | (walk1 <;> (try dsimp only)) | (dsimp only; walk1) | (leave1; walk_say "STEP leave1"; try dsimp only) | fail "no step")
    rw [show ((i : Int) + 1).toNat = i + 1 from by omega, Int.toNat_natCast]
    exact LCg.CompEnd.intro F2 N2 _ (fun p hp => hp) off trivial ⟨rfl, ia_range (f := fun (j : Nat) => [p0, p1, p2, p3].getD (j + 1) 0 - [p0, p1, p2, p3].getD j 0) iz⟩
  rintro ys3 nx3 ⟨hnx, iz⟩
  unfold LCg.FinA
  intro RA h tk F2 N2 oRA
  rw [hnx] at N2 oRA
  clear hnx nx3 iR N1
  replace iz : IntsAre ys3 [p1 - p0, p2 - p1, p3 - p2] := iz
  have oRA' := off1_nat oRA
  have hRI : @Ne Nat RA I := fun e => oRA' (I, oi) (by simp only [List.mem_cons, hI', or_true]) e.symm
  simp only [List.forall_mem_cons] at oRA'
  have hRP : Apt s₁.heap.objs.size SL TL RA := .mk12 oRA'.2.2.2.2.1 oRA'.2.2.2.2.2.1 oRA'.2.2.2.2.2.2.2.2.2.2.2.2.2.2.2.2.2.1 oRA'.2.2.2.2.2.2.2.2.2.2.2.2.2.2.2.2.1 oRA'.2.2.2.2.2.2.2.2.2.2.2.2.2.2.2.1 oRA'.2.2.2.2.2.2.2.2.2.2.2.2.2.2.1 oRA'.2.2.2.2.2.2.2.2.2.2.2.2.2.1 oRA'.2.2.2.2.2.2.2.2.2.2.2.2.1 oRA'.2.2.2.2.2.2.2.2.2.2.2.1 oRA'.2.2.2.2.2.2.2.2.2.2.1 oRA'.2.2.2.2.2.2.2.2.2.1 oRA'.2.2.2.2.2.2.2.2.1
  have nRS : @Ne Nat RA SL := hRP.1
  have nRT : @Ne Nat RA TL := hRP.2.1
  clear oRA oRA'
  dsimp only
  repeat' ((fail_if_success (with_reducible show wpAny _ _ (call (Value.ref _) _) _ _ _)); (fail_if_success (with_reducible show LCg.CompSrc _ _ _ _ _ _ _ _ _ _ _ _ _ _)); (fail_if_success (with_reducible show LCg.CompEnd _ _ _ _ _ _ _ _ _ _ _ _ _ _)); (fail_if_success (with_reducible show InvPostR _ _ _ _ _ _ _ _)); (fail_if_success (with_reducible show Mid0 _ _ _ _ _ _)); (fail_if_success (with_reducible show WhileStep2 _ _ _ _ _ _ _ _)); (fail_if_success (with_reducible show InvPostN _ _ _ _ _ _ _ _ _)); (fail_if_success (with_reducible show wpAny _ _ (exec (Stmt.While _ _ _ _) _) _ _ _)); (fail_if_success (with_reducible show wpAny _ _ (exec (Stmt.For _ _ _ _ _) _) _ _ _)); first | (k_unfold; (try dsimp only)) | ((with_reducible refine hqk _ _ ?_); (try dsimp only)) | (walk1 <;> (try dsimp only)) | (dsimp only; walk1) | (leave1; walk_say "STEP leave1"; try dsimp only) | fail "no step")
  · (rename Fr _ _ _ _ => F1); (rename News _ _ _ _ => N1)
    simp only [List.push_toArray] at N1
    rw [← hReq] at N1
    have N3 := news_fin (l := [_, _, _, _, _, _, _, _, _, _, _, _, _, _]) N1
    refine' (Mid0.out F1 N3 ⟨PA, RA, ys2, ys3, _, _, _, _, o5', o6', o7', _, _, _, ?uE, p0, p1, p2, p3, ?mE, ⟨hPI, hPP⟩, ⟨hRI, hRP⟩, iy, iz, c1, c2, e5', e6', e7', rfl⟩)
    case mE => (refine feqj [Str.ofString "rises"] [Str.ofString "steps", Str.ofString "drawn", Str.ofString "more", Str.ofString "wide"] ?fjm ?fjj ?fjo; (case fjm => (repeat' (first | exact List.forall_mem_nil _ | (refine List.forall_mem_cons.mpr ⟨by with_unfolding_all rfl, ?_⟩)))); (case fjj => decide); (case fjo => (intro y hy hz; simp only [List.forall_mem_cons, List.not_mem_nil, false_implies, implies_true, and_true] at hy; simp only [List.contains_cons, List.contains_nil, Bool.or_false, Bool.or_eq_false_iff] at hz; have hy2 := hy; simp only [← beq_eq_false_iff_ne] at hy2; have hz2 := hz; simp only [beq_eq_false_iff_ne] at hz2; simp [hy, hy2, hz, hz2, List.lookup_cons, lk, lkj])))
  · exfalso
    rename ¬ _ = _ => hne
    rename List.Perm _ _ => hperm
    rename List.Pairwise _ _ => hpw
    exact hne (hperm.symm.eq_of_pairwise (fun a b _ _ h1 h2 => Int.le_antisymm h1 h2) (by simp only [List.pairwise_cons, List.mem_cons, List.not_mem_nil, or_false, forall_eq_or_imp, forall_eq, false_implies, implies_true, List.Pairwise.nil, and_true]; omega) hpw)

theorem part2a_c : part2_in.1.1 part2aK.I part2aK.i part2aK.h part2aK.tkq part2aK.oi part2aK.ts part2aK.ss part2aK.nt part2aK.nz part2aK.C part2aK.oe part2aK.of part2aK.og part2aK.x5 part2aK.x6 part2aK.x7 part2aK.u part2aK.X part2aK.xvs part2aK.xs := part3_in.2 (fun R o7' WW n1 DU duvs cD h3 tk3 => part3_s part3_c (R, o7', WW, n1, DU, duvs, cD, h3, tk3))
end Mine
end

section
theorem Mine.offS11 : True := by
  w_top off
  trivial
open PySem PySem.W PyProof.Rows
set_option Elab.async false
set_option maxRecDepth 100000
set_option maxHeartbeats 8000000
namespace Mine
theorem news_sub {g h : Heap} {L : Addr} {l l' : List (Addr × Obj)} (N : News g L h l) (h' : ∀ p ∈ l', p ∈ l) : News g L h l' := fun p hp => N p (h' p hp)
open Mine.part2zK hiding tk in
open Mine.part1K Mine.part1aK Mine.part1bK Mine.part2bK in
noncomputable def part4_in : { PRED : Addr → Addr → Addr → Addr → Nat → Nat → Nat → Nat → Int → Int → Int → Int → Int → Int → Int → Int → Tok → Tok → Tok → Tok → Tok → Tok → Tok → Tok → Tok → Tok → Tok → Tok → Tok → Tok → Prop // (∀ (P0 : Addr) (R0 : Addr) (P1 : Addr) (R1 : Addr) (n0 : Nat) (m0 : Nat) (n1 : Nat) (m1 : Nat) (p0 : Int) (p1 : Int) (p2 : Int) (p3 : Int) (q0 : Int) (q1 : Int) (q2 : Int) (q3 : Int) (t0 : Tok) (t1 : Tok) (t2 : Tok) (t3 : Tok) (t4 : Tok) (t5 : Tok) (t6 : Tok) (t7 : Tok) (t8 : Tok) (t9 : Tok) (ta : Tok) (tb : Tok) (tc : Tok) (td : Tok), PRED P0 R0 P1 R1 n0 m0 n1 m1 p0 p1 p2 p3 q0 q1 q2 q3 t0 t1 t2 t3 t4 t5 t6 t7 t8 t9 ta tb tc td) → part2_in.1.2 part2bK.I part2bK.h part2bK.tkq part2bK.ts part2bK.ss part2bK.nt part2bK.nz part2bK.C part2bK.oe part2bK.of part2bK.og part2bK.x5 part2bK.x6 part2bK.x7 part2bK.u } := by
  refine' ⟨_, fun HYP => ?body⟩
  case body =>
  unfold part2_in
  dsimp only
  intro KX T K0 hret d1 d2 d3 d4 hwd2 oD3 iW lW dW lT dT lS qW1 qW2 e5 e6 e7 hSh hR F3 N3
  replace K0 : Below callerA s₁.heap [] s₁.heap := K0
  refine sh2 hSh ?_
  intro P0 R0 P1 R1 n0 m0 n1 m1 p0 p1 p2 p3 q0 q1 q2 q3 t0 t1 t2 t3 t4 t5 t6 t7 t8 t9 ta tb tc td eT eS c1 c2 c3 c4 eC
  rw [eC] at hR N3
  rw [eT, eS] at N3
  clear hSh eT eS eC
  have hP0 := hR (P0, _) (List.mem_append_right _ (.tail _ (.tail _ (.head _))))
  have hR0 := hR (R0, _) (List.mem_append_right _ (.tail _ (.tail _ (.tail _ (.head _)))))
  have hP1 := hR (P1, _) (List.mem_append_right _ (.head _))
  have hR1 := hR (R1, _) (List.mem_append_right _ (.tail _ (.head _)))
  have N4 := news_sub (l' := [(SL, listOf [Value.ref R0, Value.ref R1].toArray nz), (TL, listOf [Value.ref P0, Value.ref P1].toArray nt), (P0, listOf [Value.int p0 t7, .int p1 t8, .int p2 t9, .int p3 ta].toArray n0), (R0, listOf [Value.int (p1 - p0) tb, .int (p2 - p1) tc, .int (p3 - p2) td].toArray m0), (P1, listOf [Value.int q0 t0, .int q1 t1, .int q2 t2, .int q3 t3].toArray n1), (R1, listOf [Value.int (q1 - q0) t4, .int (q2 - q1) t5, .int (q3 - q2) t6].toArray m1), (s₁.heap.objs.size + 1 + 1 + 1 + 1 + 1 + 1 + 1 + 1 + 1 + 1, o1), (s₁.heap.objs.size + 1 + 1 + 1 + 1 + 1 + 1 + 1 + 1 + 1, o2), (s₁.heap.objs.size + 1 + 1 + 1 + 1 + 1 + 1 + 1 + 1, o3), (s₁.heap.objs.size + 1 + 1 + 1 + 1 + 1 + 1 + 1, o4), (s₁.heap.objs.size + 1 + 1 + 1, oT)]) N3 (by
    repeat' (first | exact List.forall_mem_nil _ | refine List.forall_mem_cons.mpr ⟨by simp only [List.mem_cons, List.mem_append, true_or, or_true], ?_⟩))
  clear hR N3 e7 e6 e5 qW2 iW dW qW1
  have kSL : Cel s₁.heap.objs.size SL := .of_lt lS.2.2.2.1
  have kTL : Cel s₁.heap.objs.size TL := .of_lt lT.2.2.1
  have kP0 := hP0.cel
  have kR0 := hR0.cel
  have kP1 := hP1.cel
  have kR1 := hR1.cel
  clear oD3 lW lT lS hP0 hR0 hP1 hR1
  refine wpAny_noRaise ?_
  revert N4; revert F3; revert kR1; revert kP1; revert kR0; revert kP0; revert kTL; revert kSL; revert c4; revert c3; revert c2; revert c1; revert dT; revert hwd2; revert d4; revert d3; revert d2; revert d1; revert hret; revert K0; revert T; revert KX
  revert td; revert tc; revert tb; revert ta; revert t9; revert t8; revert t7; revert t6; revert t5; revert t4; revert t3; revert t2; revert t1; revert t0; revert q3; revert q2; revert q1; revert q0; revert p3; revert p2; revert p1; revert p0; revert m1; revert n1; revert m0; revert n0; revert R1; revert P1; revert R0; revert P0
  exact HYP
noncomputable def part4_B : Addr × Addr × Addr × Addr × Nat × Nat × Nat × Nat × Int × Int × Int × Int × Int × Int × Int × Int × Tok × Tok × Tok × Tok × Tok × Tok × Tok × Tok × Tok × Tok × Tok × Tok × Tok × Tok → Prop := fun v => part4_in.1 v.1 v.2.1 v.2.2.1 v.2.2.2.1 v.2.2.2.2.1 v.2.2.2.2.2.1 v.2.2.2.2.2.2.1 v.2.2.2.2.2.2.2.1 v.2.2.2.2.2.2.2.2.1 v.2.2.2.2.2.2.2.2.2.1 v.2.2.2.2.2.2.2.2.2.2.1 v.2.2.2.2.2.2.2.2.2.2.2.1 v.2.2.2.2.2.2.2.2.2.2.2.2.1 v.2.2.2.2.2.2.2.2.2.2.2.2.2.1 v.2.2.2.2.2.2.2.2.2.2.2.2.2.2.1 v.2.2.2.2.2.2.2.2.2.2.2.2.2.2.2.1 v.2.2.2.2.2.2.2.2.2.2.2.2.2.2.2.2.1 v.2.2.2.2.2.2.2.2.2.2.2.2.2.2.2.2.2.1 v.2.2.2.2.2.2.2.2.2.2.2.2.2.2.2.2.2.2.1 v.2.2.2.2.2.2.2.2.2.2.2.2.2.2.2.2.2.2.2.1 v.2.2.2.2.2.2.2.2.2.2.2.2.2.2.2.2.2.2.2.2.1 v.2.2.2.2.2.2.2.2.2.2.2.2.2.2.2.2.2.2.2.2.2.1 v.2.2.2.2.2.2.2.2.2.2.2.2.2.2.2.2.2.2.2.2.2.2.1 v.2.2.2.2.2.2.2.2.2.2.2.2.2.2.2.2.2.2.2.2.2.2.2.1 v.2.2.2.2.2.2.2.2.2.2.2.2.2.2.2.2.2.2.2.2.2.2.2.2.1 v.2.2.2.2.2.2.2.2.2.2.2.2.2.2.2.2.2.2.2.2.2.2.2.2.2.1 v.2.2.2.2.2.2.2.2.2.2.2.2.2.2.2.2.2.2.2.2.2.2.2.2.2.2.1 v.2.2.2.2.2.2.2.2.2.2.2.2.2.2.2.2.2.2.2.2.2.2.2.2.2.2.2.1 v.2.2.2.2.2.2.2.2.2.2.2.2.2.2.2.2.2.2.2.2.2.2.2.2.2.2.2.2.1 v.2.2.2.2.2.2.2.2.2.2.2.2.2.2.2.2.2.2.2.2.2.2.2.2.2.2.2.2.2
noncomputable def part4_v : Addr × Addr × Addr × Addr × Nat × Nat × Nat × Nat × Int × Int × Int × Int × Int × Int × Int × Int × Tok × Tok × Tok × Tok × Tok × Tok × Tok × Tok × Tok × Tok × Tok × Tok × Tok × Tok := Classical.choose (drink ⟨(default, default, default, default, default, default, default, default, default, default, default, default, default, default, default, default, default, default, default, default, default, default, default, default, default, default, default, default, default, default)⟩ part4_B)
theorem part4_s : part4_B part4_v → ∀ v, part4_B v := by
  with_unfolding_all exact Classical.choose_spec (drink ⟨(default, default, default, default, default, default, default, default, default, default, default, default, default, default, default, default, default, default, default, default, default, default, default, default, default, default, default, default, default, default)⟩ part4_B)
namespace part4K
noncomputable def P0 : Addr := part4_v.1
noncomputable def R0 : Addr := part4_v.2.1
noncomputable def P1 : Addr := part4_v.2.2.1
noncomputable def R1 : Addr := part4_v.2.2.2.1
noncomputable def n0 : Nat := part4_v.2.2.2.2.1
noncomputable def m0 : Nat := part4_v.2.2.2.2.2.1
noncomputable def n1 : Nat := part4_v.2.2.2.2.2.2.1
noncomputable def m1 : Nat := part4_v.2.2.2.2.2.2.2.1
noncomputable def p0 : Int := part4_v.2.2.2.2.2.2.2.2.1
noncomputable def p1 : Int := part4_v.2.2.2.2.2.2.2.2.2.1
noncomputable def p2 : Int := part4_v.2.2.2.2.2.2.2.2.2.2.1
noncomputable def p3 : Int := part4_v.2.2.2.2.2.2.2.2.2.2.2.1
noncomputable def q0 : Int := part4_v.2.2.2.2.2.2.2.2.2.2.2.2.1
noncomputable def q1 : Int := part4_v.2.2.2.2.2.2.2.2.2.2.2.2.2.1
noncomputable def q2 : Int := part4_v.2.2.2.2.2.2.2.2.2.2.2.2.2.2.1
noncomputable def q3 : Int := part4_v.2.2.2.2.2.2.2.2.2.2.2.2.2.2.2.1
noncomputable def t0 : Tok := part4_v.2.2.2.2.2.2.2.2.2.2.2.2.2.2.2.2.1
noncomputable def t1 : Tok := part4_v.2.2.2.2.2.2.2.2.2.2.2.2.2.2.2.2.2.1
noncomputable def t2 : Tok := part4_v.2.2.2.2.2.2.2.2.2.2.2.2.2.2.2.2.2.2.1
noncomputable def t3 : Tok := part4_v.2.2.2.2.2.2.2.2.2.2.2.2.2.2.2.2.2.2.2.1
noncomputable def t4 : Tok := part4_v.2.2.2.2.2.2.2.2.2.2.2.2.2.2.2.2.2.2.2.2.1
noncomputable def t5 : Tok := part4_v.2.2.2.2.2.2.2.2.2.2.2.2.2.2.2.2.2.2.2.2.2.1
noncomputable def t6 : Tok := part4_v.2.2.2.2.2.2.2.2.2.2.2.2.2.2.2.2.2.2.2.2.2.2.1
noncomputable def t7 : Tok := part4_v.2.2.2.2.2.2.2.2.2.2.2.2.2.2.2.2.2.2.2.2.2.2.2.1
noncomputable def t8 : Tok := part4_v.2.2.2.2.2.2.2.2.2.2.2.2.2.2.2.2.2.2.2.2.2.2.2.2.1
noncomputable def t9 : Tok := part4_v.2.2.2.2.2.2.2.2.2.2.2.2.2.2.2.2.2.2.2.2.2.2.2.2.2.1
noncomputable def ta : Tok := part4_v.2.2.2.2.2.2.2.2.2.2.2.2.2.2.2.2.2.2.2.2.2.2.2.2.2.2.1
noncomputable def tb : Tok := part4_v.2.2.2.2.2.2.2.2.2.2.2.2.2.2.2.2.2.2.2.2.2.2.2.2.2.2.2.1
noncomputable def tc : Tok := part4_v.2.2.2.2.2.2.2.2.2.2.2.2.2.2.2.2.2.2.2.2.2.2.2.2.2.2.2.2.1
noncomputable def td : Tok := part4_v.2.2.2.2.2.2.2.2.2.2.2.2.2.2.2.2.2.2.2.2.2.2.2.2.2.2.2.2.2
end part4K
open Mine.part2zK hiding tk in
open Mine.part1K Mine.part1aK Mine.part1bK Mine.part2bK Mine.part4K in
noncomputable def part4f_in : { PRED : (List Value) → Addr → Obj → Heap → Nat → Prop // (∀ (ys2 : List Value) (LA : Addr) (o4' : Obj) (h3 : Heap) (tk3 : Nat), PRED ys2 LA o4' h3 tk3) → part4_in.1 part4K.P0 part4K.R0 part4K.P1 part4K.R1 part4K.n0 part4K.m0 part4K.n1 part4K.m1 part4K.p0 part4K.p1 part4K.p2 part4K.p3 part4K.q0 part4K.q1 part4K.q2 part4K.q3 part4K.t0 part4K.t1 part4K.t2 part4K.t3 part4K.t4 part4K.t5 part4K.t6 part4K.t7 part4K.t8 part4K.t9 part4K.ta part4K.tb part4K.tc part4K.td } := by
  refine' ⟨_, fun HYPB => ?body⟩
  case body =>
  unfold part4_in
  dsimp only
  k_fill
  intro KX T K0 hret d1 d2 d3 d4 hwd2 dT c1 c2 c3 c4 kSL kTL kP0 kR0 kP1 kR1 F3 N4
  repeat' ((fail_if_success (with_reducible show wpAny _ _ (call (Value.ref _) _) _ _ _)); (fail_if_success (with_reducible show LCg.CompSrc _ _ _ _ _ _ _ _ _ _ _ _ _ _)); (fail_if_success (with_reducible show LCg.CompEnd _ _ _ _ _ _ _ _ _ _ _ _ _ _)); (fail_if_success (with_reducible show InvPostR _ _ _ _ _ _ _ _)); (fail_if_success (with_reducible show Mid0 _ _ _ _ _ _)); (fail_if_success (with_reducible show WhileStep2 _ _ _ _ _ _ _ _)); (fail_if_success (with_reducible show InvPostN _ _ _ _ _ _ _ _ _)); (fail_if_success (with_reducible show wpAny _ _ (exec (Stmt.While _ _ _ _) _) _ _ _)); (fail_if_success (with_reducible show wpAny _ _ (exec (Stmt.For _ _ _ _ _) _) _ _ _)); first | (k_unfold; (try dsimp only)) | ((with_reducible refine hqk _ _ ?_); (try dsimp only)) | (walk1 <;> (try dsimp only)) | (dsimp only; walk1) | (leave1; walk_say "STEP leave1"; try dsimp only) | fail "no step")
  refine ListComp_cell (F₀ := F3) (by with_unfolding_all rfl) (fun _ => rfl) (fun _ => rfl) (by rfl) (by decide) (fun _ _ => rfl) ?_
  repeat' ((fail_if_success (with_reducible show wpAny _ _ (call (Value.ref _) _) _ _ _)); (fail_if_success (with_reducible show LCg.CompSrc _ _ _ _ _ _ _ _ _ _ _ _ _ _)); (fail_if_success (with_reducible show LCg.CompEnd _ _ _ _ _ _ _ _ _ _ _ _ _ _)); (fail_if_success (with_reducible show InvPostR _ _ _ _ _ _ _ _)); (fail_if_success (with_reducible show Mid0 _ _ _ _ _ _)); (fail_if_success (with_reducible show WhileStep2 _ _ _ _ _ _ _ _)); (fail_if_success (with_reducible show InvPostN _ _ _ _ _ _ _ _ _)); (fail_if_success (with_reducible show wpAny _ _ (exec (Stmt.While _ _ _ _) _) _ _ _)); (fail_if_success (with_reducible show wpAny _ _ (exec (Stmt.For _ _ _ _ _) _) _ _ _)); first | (k_unfold; (try dsimp only)) | ((with_reducible refine hqk _ _ ?_); (try dsimp only)) | (walk1 <;> (try dsimp only)) | (dsimp only; walk1) | (leave1; walk_say "STEP leave1"; try dsimp only) | fail "no step")
  (rename Fr _ _ _ _ => F1); (rename News _ _ _ _ => N1)
  rename IsRange _ _ _ _ _ _ _ _ => iR
  have iP0 : IntsAre [Value.int p0 t7, Value.int p1 t8, Value.int p2 t9, Value.int p3 ta] [p0, p1, p2, p3] := .cons _ _ (.cons _ _ (.cons _ _ (.cons _ _ .nil)))
  have iP1 : IntsAre [Value.int q0 t0, Value.int q1 t1, Value.int q2 t2, Value.int q3 t3] [q0, q1, q2, q3] := .cons _ _ (.cons _ _ (.cons _ _ (.cons _ _ .nil)))
  refine CrSrc.range (n := 7) (fun i ys => IntsAre ys ((List.range i).map fun j => (LS p0 p1 p2 p3 q0 q1 q2 q3).getD j 0)) (by rfl) F1 N1 iR (small_one (by decide) (by decide) (by decide) (by decide)) rfl (by size_fits) .nil ?turnA ?finA
  case turnA =>
    clear F1 N1
    intro g1 i t ys I2 oI2 C2 oC2 X2 oX2 D2 m₂ h tk E' hi iy hC2 hX2 F2 N2
    refine gen_post1 ?_
    intro EP hEP
    rw [show (0 : Int) + (i : Int) = (i : Int) from by omega] at hX2
    repeat' ((fail_if_success (with_reducible show wpAny _ _ (eval (Expr.ListComp _ _ _ _) _) _ _ _)); (fail_if_success (with_reducible show wpAny _ _ (exec (Stmt.Assign _ (Expr.ListComp _ _ _ _) _) _) _ _ _)); (fail_if_success (with_reducible show LCt.CompSrcT _ _ _ _ _ _ _ _ _ _ _ _ _ _ _)); (fail_if_success (with_reducible show wpAny _ _ (call (Value.ref _) _) _ _ _)); (fail_if_success (with_reducible show LCg.CompSrc _ _ _ _ _ _ _ _ _ _ _ _ _ _)); (fail_if_success (with_reducible show LCg.CompEnd _ _ _ _ _ _ _ _ _ _ _ _ _ _)); (fail_if_success (with_reducible show InvPostR _ _ _ _ _ _ _ _)); (fail_if_success (with_reducible show Mid0 _ _ _ _ _ _)); (fail_if_success (with_reducible show WhileStep2 _ _ _ _ _ _ _ _)); (fail_if_success (with_reducible show InvPostN _ _ _ _ _ _ _ _ _)); (fail_if_success (with_reducible show wpAny _ _ (exec (Stmt.While _ _ _ _) _) _ _ _)); (fail_if_success (with_reducible show wpAny _ _ (exec (Stmt.For _ _ _ _ _) _) _ _ _)); first | (k_unfold; (try dsimp only)) | ((with_reducible refine hqk _ _ ?_); (try dsimp only)) | (walk1 <;> (try dsimp only)) | (dsimp only; walk1) | (leave1; walk_say "STEP leave1"; try dsimp only) | fail "no step")
    (k_dflt (refine LCt.ListComp_T (F₀ := by k_asm) (by with_unfolding_all rfl) (by decide) (by rfl) (by decide) (by rfl) ?_))
    repeat' ((fail_if_success (with_reducible show wpAny _ _ (eval (Expr.ListComp _ _ _ _) _) _ _ _)); (fail_if_success (with_reducible show wpAny _ _ (exec (Stmt.Assign _ (Expr.ListComp _ _ _ _) _) _) _ _ _)); (fail_if_success (with_reducible show LCt.CompSrcT _ _ _ _ _ _ _ _ _ _ _ _ _ _ _)); (fail_if_success (with_reducible show wpAny _ _ (call (Value.ref _) _) _ _ _)); (fail_if_success (with_reducible show LCg.CompSrc _ _ _ _ _ _ _ _ _ _ _ _ _ _)); (fail_if_success (with_reducible show LCg.CompEnd _ _ _ _ _ _ _ _ _ _ _ _ _ _)); (fail_if_success (with_reducible show InvPostR _ _ _ _ _ _ _ _)); (fail_if_success (with_reducible show Mid0 _ _ _ _ _ _)); (fail_if_success (with_reducible show WhileStep2 _ _ _ _ _ _ _ _)); (fail_if_success (with_reducible show InvPostN _ _ _ _ _ _ _ _ _)); (fail_if_success (with_reducible show wpAny _ _ (exec (Stmt.While _ _ _ _) _) _ _ _)); (fail_if_success (with_reducible show wpAny _ _ (exec (Stmt.For _ _ _ _ _) _) _ _ _)); first | (k_unfold; (try dsimp only)) | ((with_reducible refine hqk _ _ ?_); (try dsimp only)) | (walk1 <;> (try dsimp only)) | (dsimp only; walk1) | (leave1; walk_say "STEP leave1"; try dsimp only) | fail "no step")
    (rename Fr _ _ _ _ => F1); (rename News _ _ _ _ => N1)
    rename IsRange _ _ _ _ _ _ _ _ => iR
    refine LCt.CompSrcT.range (n := 4) (by rfl) F1 N1 iR (small_one (by decide) (by decide) (by decide) (by decide)) rfl (by size_fits) ?_
    clear F1
    intro g2
    refine comp_invT (n := 4) (fun j zs nx => nx = (I2, oI2) :: (C2, oC2) :: (X2, oX2) :: (D2, LCg.lst ys) :: [(SL, listOf [Value.ref R0, Value.ref R1].toArray nz), (TL, listOf [Value.ref P0, Value.ref P1].toArray nt), (P0, listOf [Value.int p0 t7, .int p1 t8, .int p2 t9, .int p3 ta].toArray n0), (R0, listOf [Value.int (p1 - p0) tb, .int (p2 - p1) tc, .int (p3 - p2) td].toArray m0), (P1, listOf [Value.int q0 t0, .int q1 t1, .int q2 t2, .int q3 t3].toArray n1), (R1, listOf [Value.int (q1 - q0) t4, .int (q2 - q1) t5, .int (q3 - q2) t6].toArray m1), (s₁.heap.objs.size + 1 + 1 + 1 + 1 + 1 + 1 + 1 + 1 + 1 + 1, o1), (s₁.heap.objs.size + 1 + 1 + 1 + 1 + 1 + 1 + 1 + 1 + 1, o2), (s₁.heap.objs.size + 1 + 1 + 1 + 1 + 1 + 1 + 1 + 1, o3), (s₁.heap.objs.size + 1 + 1 + 1 + 1 + 1 + 1 + 1, o4), (s₁.heap.objs.size + 1 + 1 + 1, oT)] ∧ IntsAre zs (cand [p0, p1, p2, p3] [q0, q1, q2, q3] i j)) ?turnB ?finB 4 0 [] _ rfl ⟨rfl, .nil⟩
    case turnB =>
      clear N1
      rintro j v I3 oI3 C3 oC3 D3 m₃ h tk E' zs nx hj ⟨rfl, iz⟩ ⟨t', rfl⟩ hC3 hx F2 N2 off ne
      rw [show (0 : Int) + (j : Int) = (j : Int) from by omega] at hx
      repeat' ((fail_if_success (with_reducible show wpAny _ _ (eval (Expr.ListComp _ _ _ _) _) _ _ _)); (fail_if_success (with_reducible show wpAny _ _ (exec (Stmt.Assign _ (Expr.ListComp _ _ _ _) _) _) _ _ _)); (fail_if_success (with_reducible show LCt.CompSrcT _ _ _ _ _ _ _ _ _ _ _ _ _ _ _)); (fail_if_success (with_reducible show wpAny _ _ (call (Value.ref _) _) _ _ _)); (fail_if_success (with_reducible show LCg.CompSrc _ _ _ _ _ _ _ _ _ _ _ _ _ _)); (fail_if_success (with_reducible show LCg.CompEnd _ _ _ _ _ _ _ _ _ _ _ _ _ _)); (fail_if_success (with_reducible show InvPostR _ _ _ _ _ _ _ _)); (fail_if_success (with_reducible show Mid0 _ _ _ _ _ _)); (fail_if_success (with_reducible show WhileStep2 _ _ _ _ _ _ _ _)); (fail_if_success (with_reducible show InvPostN _ _ _ _ _ _ _ _ _)); (fail_if_success (with_reducible show wpAny _ _ (exec (Stmt.While _ _ _ _) _) _ _ _)); (fail_if_success (with_reducible show wpAny _ _ (exec (Stmt.For _ _ _ _ _) _) _ _ _)); first | (k_unfold; (try dsimp only)) | ((with_reducible refine hqk _ _ ?_); (try dsimp only)) | (walk1 <;> (try dsimp only)) | (dsimp only; walk1) | (leave1; walk_say "STEP leave1"; try dsimp only) | fail "no step")
      · rw [show ((i : Int) - (j : Int)).toNat = i - j from by omega, Int.toNat_natCast]
        exact LCg.CompEnd.intro F2 N2 _ (fun p hp => hp) off trivial ⟨rfl, by rw [cand_in (by omega)]; exact ia_snoc iz⟩
      · exact LCg.CompEnd.intro F2 N2 _ (fun p hp => hp) off trivial ⟨rfl, by rw [cand_out (by omega)]; exact iz⟩
      · exact LCg.CompEnd.intro F2 N2 _ (fun p hp => hp) off trivial ⟨rfl, by rw [cand_out (by omega)]; exact iz⟩
    case finB =>
      rintro zs nx ⟨hnx, iz⟩
      unfold LCg.FinE
      intro ZL h tk F2 N2 oZ
      rw [hnx] at N2 oZ
      clear hnx nx iR N1
      have hcp := cand_pos (ps := [p0, p1, p2, p3]) (qs := [q0, q1, q2, q3]) hi
      dsimp only
      repeat' ((fail_if_success (with_reducible show wpAny _ _ (eval (Expr.ListComp _ _ _ _) _) _ _ _)); (fail_if_success (with_reducible show wpAny _ _ (exec (Stmt.Assign _ (Expr.ListComp _ _ _ _) _) _) _ _ _)); (fail_if_success (with_reducible show LCt.CompSrcT _ _ _ _ _ _ _ _ _ _ _ _ _ _ _)); (fail_if_success (with_reducible show wpAny _ _ (call (Value.ref _) _) _ _ _)); (fail_if_success (with_reducible show LCg.CompSrc _ _ _ _ _ _ _ _ _ _ _ _ _ _)); (fail_if_success (with_reducible show LCg.CompEnd _ _ _ _ _ _ _ _ _ _ _ _ _ _)); (fail_if_success (with_reducible show InvPostR _ _ _ _ _ _ _ _)); (fail_if_success (with_reducible show Mid0 _ _ _ _ _ _)); (fail_if_success (with_reducible show WhileStep2 _ _ _ _ _ _ _ _)); (fail_if_success (with_reducible show InvPostN _ _ _ _ _ _ _ _ _)); (fail_if_success (with_reducible show wpAny _ _ (exec (Stmt.While _ _ _ _) _) _ _ _)); (fail_if_success (with_reducible show wpAny _ _ (exec (Stmt.For _ _ _ _ _) _) _ _ _)); first | (k_unfold; (try dsimp only)) | ((with_reducible refine hqk _ _ ?_); (try dsimp only)) | (walk1 <;> (try dsimp only)) | (dsimp only; walk1) | (leave1; walk_say "STEP leave1"; try dsimp only) | fail "no step")
      rename_i hM M tM kM F5 N5 hMa hMb
      refine hEP _ _ ⟨_, _, rfl, F5, fun p hp => N5 p (.tail _ hp), ?_⟩
      rw [least_is c1 c2 c3 c4 hi hMa hMb]
      exact ia_range (f := fun j => (LS p0 p1 p2 p3 q0 q1 q2 q3).getD j 0) iy
  case finA =>
    intro g ys2 iL
    rw [LS_map] at iL
    show LCg.FinE _ _ _ _ _ _ _
    unfold LCg.FinE
    clear F1 N1
    intro LA h tk F2 N2 oLA
    have oLA' := off1_nat oLA
    simp only [List.forall_mem_cons] at oLA'
    have kLA : Cel s₁.heap.objs.size LA := .mk4 oLA'.2.2.2.2.2.2.1 oLA'.2.2.2.2.2.2.2.1 oLA'.2.2.2.2.2.2.2.2.1 oLA'.2.2.2.2.2.2.2.2.2.1
    clear oLA oLA'
    have hLl := LS_len p0 p1 p2 p3 q0 q1 q2 q3
    have hLz := LS_zero p0 p1 p2 p3 q0 q1 q2 q3
    have hys2 := iL.length
    dsimp only
    repeat' ((fail_if_success (with_reducible show wpAny _ _ (eval (Expr.ListComp _ _ _ _) _) _ _ _)); (fail_if_success (with_reducible show wpAny _ _ (exec (Stmt.Assign _ (Expr.ListComp _ _ _ _) _) _) _ _ _)); (fail_if_success (with_reducible show LCt.CompSrcT _ _ _ _ _ _ _ _ _ _ _ _ _ _ _)); (fail_if_success (with_reducible show wpAny _ _ (call (Value.ref _) _) _ _ _)); (fail_if_success (with_reducible show LCg.CompSrc _ _ _ _ _ _ _ _ _ _ _ _ _ _)); (fail_if_success (with_reducible show LCg.CompEnd _ _ _ _ _ _ _ _ _ _ _ _ _ _)); (fail_if_success (with_reducible show InvPostR _ _ _ _ _ _ _ _)); (fail_if_success (with_reducible show Mid0 _ _ _ _ _ _)); (fail_if_success (with_reducible show WhileStep2 _ _ _ _ _ _ _ _)); (fail_if_success (with_reducible show InvPostN _ _ _ _ _ _ _ _ _)); (fail_if_success (with_reducible show wpAny _ _ (exec (Stmt.While _ _ _ _) _) _ _ _)); (fail_if_success (with_reducible show wpAny _ _ (exec (Stmt.For _ _ _ _ _) _) _ _ _)); first | (k_unfold; (try dsimp only)) | ((with_reducible refine hqk _ _ ?_); (try dsimp only)) | (walk1 <;> (try dsimp only)) | (dsimp only; walk1) | (leave1; walk_say "STEP leave1"; try dsimp only) | fail "no step")
    (rename Fr _ _ _ _ => F1); (rename News _ _ _ _ => N1)
    refine' spc_use (deal_spc ?a1H ?a2H ?a3H) ?k1H ?k2H ?k3H ?k4H ?k5H ?k6H ?k7H ?k8H ?_
    (case k1H => exact K0)
    (case k2H => exact F1)
    (case k3H => k_asm)
    (case k4H => exact N1)
    (case k5H => k_asm)
    (case k6H => first | exact rfl | assumption)
    (case k7H => ktr_room)
    (case k8H => ktr_units)
    (case a1H => k_mem)
    (case a2H => k_mem)
    (case a3H => k_mem)
    dsimp only [RetL]
    intro GD gvs cG h3 tk3 F3' N3' iG lG
    k_lt lG
    have iG2 : IntsAre gvs (LS p0 p1 p2 p3 q0 q1 q2 q3) := by
      rw [show (LS p0 p1 p2 p3 q0 q1 q2 q3).getD (Int.toNat 0) 0 = p0 + q0 from hLz] at iG
      exact iG
    clear iG F1 N1
    repeat' ((fail_if_success (with_reducible show wpAny _ _ (eval (Expr.ListComp _ _ _ _) _) _ _ _)); (fail_if_success (with_reducible show wpAny _ _ (exec (Stmt.Assign _ (Expr.ListComp _ _ _ _) _) _) _ _ _)); (fail_if_success (with_reducible show LCt.CompSrcT _ _ _ _ _ _ _ _ _ _ _ _ _ _ _)); (fail_if_success (with_reducible show wpAny _ _ (call (Value.ref _) _) _ _ _)); (fail_if_success (with_reducible show LCg.CompSrc _ _ _ _ _ _ _ _ _ _ _ _ _ _)); (fail_if_success (with_reducible show LCg.CompEnd _ _ _ _ _ _ _ _ _ _ _ _ _ _)); (fail_if_success (with_reducible show InvPostR _ _ _ _ _ _ _ _)); (fail_if_success (with_reducible show Mid0 _ _ _ _ _ _)); (fail_if_success (with_reducible show WhileStep2 _ _ _ _ _ _ _ _)); (fail_if_success (with_reducible show InvPostN _ _ _ _ _ _ _ _ _)); (fail_if_success (with_reducible show wpAny _ _ (exec (Stmt.While _ _ _ _) _) _ _ _)); (fail_if_success (with_reducible show wpAny _ _ (exec (Stmt.For _ _ _ _ _) _) _ _ _)); first | (k_unfold; (try dsimp only)) | ((with_reducible refine hqk _ _ ?_); (try dsimp only)) | (walk1 <;> (try dsimp only)) | (dsimp only; walk1) | (leave1; walk_say "STEP leave1"; try dsimp only) | fail "no step")
    (rename Fr _ _ _ _ => F1); (rename News _ _ _ _ => N1)
    rename_i o4' e4' _
    have F5 : Fr s₁.heap s₁.heap.objs.size _ _ := F1
    have N5 := news_sub (l' := [(SL, listOf [Value.ref R0, Value.ref R1].toArray nz), (R0, listOf [Value.int (p1 - p0) tb, .int (p2 - p1) tc, .int (p3 - p2) td].toArray m0), (R1, listOf [Value.int (q1 - q0) t4, .int (q2 - q1) t5, .int (q3 - q2) t6].toArray m1), (LA, LCg.lst ys2), (s₁.heap.objs.size + 1 + 1 + 1 + 1 + 1 + 1 + 1 + 1 + 1 + 1, o1), (s₁.heap.objs.size + 1 + 1 + 1 + 1 + 1 + 1 + 1 + 1 + 1, o2), (s₁.heap.objs.size + 1 + 1 + 1 + 1 + 1 + 1 + 1 + 1, o3), (s₁.heap.objs.size + 1 + 1 + 1 + 1 + 1 + 1 + 1, o4')]) N1 (by
      repeat' (first | exact List.forall_mem_nil _ | refine List.forall_mem_cons.mpr ⟨by simp only [List.mem_cons, true_or, or_true], ?_⟩))
    clear F1 N1
    (try dsimp only)
    clear hLl hLz hys2 lG iG2 iP0 iP1 kTL kP0 kP1 d4 dT iR
    replace kR0 : Cel s₁.heap.objs.size R0 := kR0
    replace kR1 : Cel s₁.heap.objs.size R1 := kR1
    revert N5; revert F5; revert iL; revert e4'; revert kLA; revert kR1; revert kR0; revert kSL; revert c4; revert c3; revert c2; revert c1; revert hwd2; revert d3; revert d2; revert d1; revert hret; revert K0; revert T; revert KX
    revert tk3; revert h3; revert o4'; revert LA; revert ys2
    exact HYPB
noncomputable def part4f_B : (List Value) × Addr × Obj × Heap × Nat → Prop := fun v => part4f_in.1 v.1 v.2.1 v.2.2.1 v.2.2.2.1 v.2.2.2.2
noncomputable def part4f_v : (List Value) × Addr × Obj × Heap × Nat := Classical.choose (drink ⟨(default, default, default, default, default)⟩ part4f_B)
theorem part4f_s : part4f_B part4f_v → ∀ v, part4f_B v := by
  with_unfolding_all exact Classical.choose_spec (drink ⟨(default, default, default, default, default)⟩ part4f_B)
namespace part4fK
noncomputable def ys2 : List Value := part4f_v.1
noncomputable def LA : Addr := part4f_v.2.1
noncomputable def o4' : Obj := part4f_v.2.2.1
noncomputable def h3 : Heap := part4f_v.2.2.2.1
noncomputable def tk3 : Nat := part4f_v.2.2.2.2
end part4fK
end Mine
end

section
theorem Mine.offS12 : True := by
  w_top off
  trivial
open PySem PySem.W PyProof.Rows
set_option Elab.async false
set_option maxRecDepth 100000
set_option maxHeartbeats 8000000
namespace Mine
open Mine.part2zK hiding tk in
open Mine.part1K Mine.part1aK Mine.part1bK Mine.part2bK Mine.part4K Mine.part4fK in
noncomputable def part5_in : { PRED : PySem.Heap → Nat → PySem.Addr → Nat → PySem.Tok → PySem.Heap → Nat → PySem.Obj → PySem.Obj → PySem.Obj → PySem.Obj → (Option PySem.Value) → (Option PySem.Value) → (Option PySem.Value) → (PySem.Str → Option PySem.Value) → (PySem.Flow → PySem.Shared → Prop) → Int → Prop // (∀ (hz2 : PySem.Heap) (tkz3 : Nat) (I : PySem.Addr) (i : Nat) (t : PySem.Tok) (h : PySem.Heap) (tk : Nat) (oi : PySem.Obj) (p1' : PySem.Obj) (p2' : PySem.Obj) (p3' : PySem.Obj) (x1 : Option PySem.Value) (x2 : Option PySem.Value) (x3 : Option PySem.Value) (u' : PySem.Str → Option PySem.Value) (MP : PySem.Flow → PySem.Shared → Prop) (r : Int), PRED hz2 tkz3 I i t h tk oi p1' p2' p3' x1 x2 x3 u' MP r) → part4f_in.1 part4fK.ys2 part4fK.LA part4fK.o4' part4fK.h3 part4fK.tk3 } :=
  ⟨_, fun HYP => by
  unfold part4f_in
  dsimp only
  k_fill
  intro KX T K0 hret d1 d2 d3 hwd2 c1 c2 c3 c4 kSL kR0 kR1 kLA e4' iL F5 N5
  (with_unfolding_all refine' For_turns F5 ?_)
  repeat' ((fail_if_success (with_reducible show wpAny _ _ (pyIter _) _ _ _)); (fail_if_success (with_reducible show LCg.CompSrc _ _ _ _ _ _ _ _ _ _ _ _ _ _)); (fail_if_success (with_reducible show LCg.CompEnd _ _ _ _ _ _ _ _ _ _ _ _ _ _)); (fail_if_success (with_reducible show InvPostR _ _ _ _ _ _ _ _)); (fail_if_success (with_reducible show Mid0 _ _ _ _ _ _)); (fail_if_success (with_reducible show WhileStep2 _ _ _ _ _ _ _ _)); (fail_if_success (with_reducible show InvPostN _ _ _ _ _ _ _ _ _)); (fail_if_success (with_reducible show wpAny _ _ (exec (Stmt.While _ _ _ _) _) _ _ _)); (fail_if_success (with_reducible show wpAny _ _ (exec (Stmt.For _ _ _ _ _) _) _ _ _)); first | (k_unfold; (try dsimp only)) | ((with_reducible refine hqk _ _ ?_); (try dsimp only)) | (walk1 <;> (try dsimp only)) | (dsimp only; walk1) | (leave1; walk_say "STEP leave1"; try dsimp only) | fail "no step")
  (rename Fr _ _ _ _ => F1); (rename News _ _ _ _ => N1)
  rename IsRange _ _ _ _ _ _ _ _ => iR
  refine range_turns (n := (4 * wd + 1).toNat) (fun I i m nx => ∃ (p1' p2' p3' : Obj) (x1 x2 x3 : Option Value) (u' : Str → Option Value), p1'.data = .cell x1 ∧ p2'.data = .cell x2 ∧ p3'.data = .cell x3 ∧
      nx = [(SL, listOf [Value.ref R0, Value.ref R1].toArray nz), (R0, listOf [Value.int (p1 - p0) tb, .int (p2 - p1) tc, .int (p3 - p2) td].toArray m0), (R1, listOf [Value.int (q1 - q0) t4, .int (q2 - q1) t5, .int (q3 - q2) t6].toArray m1), (LA, LCg.lst ys2), (s₁.heap.objs.size + 1 + 1 + 1 + 1 + 1 + 1 + 1 + 1 + 1 + 1, p1'), (s₁.heap.objs.size + 1 + 1 + 1 + 1 + 1 + 1 + 1 + 1 + 1, p2'), (s₁.heap.objs.size + 1 + 1 + 1 + 1 + 1 + 1 + 1 + 1, p3'), (s₁.heap.objs.size + 1 + 1 + 1 + 1 + 1 + 1 + 1, o4')] ∧
      m = lkj [Str.ofString "rises", Str.ofString "fewest", Str.ofString "most"] u' [(Str.ofString "steps", .ref SL), (Str.ofString "drawn", .ref DR), (Str.ofString "more", .int mo tmo), (Str.ofString "wide", .int wd twd)])
    (by rfl) F1 N1 iR ?sm ?sz ?hj ?turn ?done
  case sm => exact small_one (by omega) (by omega) (by omega) (by omega)
  case sz => rw [rangeSize_one]; split <;> omega
  case hj =>
    intro I hI
    refine' ⟨o1, o2, o3, _, _, _, ?uA, d1, d2, d3, rfl, ?mA⟩
    case mA => (refine feqj [Str.ofString "rises", Str.ofString "fewest", Str.ofString "most"] [Str.ofString "steps", Str.ofString "drawn", Str.ofString "more", Str.ofString "wide"] ?fjm ?fjj ?fjo; (case fjm => (repeat' (first | exact List.forall_mem_nil _ | (refine List.forall_mem_cons.mpr ⟨by with_unfolding_all rfl, ?_⟩)))); (case fjj => decide); (case fjo => (intro y hy hz; simp only [List.forall_mem_cons, List.not_mem_nil, false_implies, implies_true, and_true] at hy; simp only [List.contains_cons, List.contains_nil, Bool.or_false, Bool.or_eq_false_iff] at hz; have hy2 := hy; simp only [← beq_eq_false_iff_ne] at hy2; have hz2 := hz; simp only [beq_eq_false_iff_ne] at hz2; simp [hy, hy2, hz, hz2, List.lookup_cons, lk, lkj])))
  case done =>
    clear F1 N1
    rintro I m nx h tk hI ⟨p1', p2', p3', x1, x2, x3, u', e1, e2, e3, rfl, rfl⟩ F2 N2
    dsimp only
    repeat' ((fail_if_success (with_reducible show wpAny _ _ (eval (Expr.ListComp _ _ _ _) _) _ _ _)); (fail_if_success (with_reducible show wpAny _ _ (exec (Stmt.Assign _ (Expr.ListComp _ _ _ _) _) _) _ _ _)); (fail_if_success (with_reducible show LCt.CompSrcT _ _ _ _ _ _ _ _ _ _ _ _ _ _ _)); (fail_if_success (with_reducible show wpAny _ _ (call (Value.ref _) _) _ _ _)); (fail_if_success (with_reducible show LCg.CompSrc _ _ _ _ _ _ _ _ _ _ _ _ _ _)); (fail_if_success (with_reducible show LCg.CompEnd _ _ _ _ _ _ _ _ _ _ _ _ _ _)); (fail_if_success (with_reducible show InvPostR _ _ _ _ _ _ _ _)); (fail_if_success (with_reducible show Mid0 _ _ _ _ _ _)); (fail_if_success (with_reducible show WhileStep2 _ _ _ _ _ _ _ _)); (fail_if_success (with_reducible show InvPostN _ _ _ _ _ _ _ _ _)); (fail_if_success (with_reducible show wpAny _ _ (exec (Stmt.While _ _ _ _) _) _ _ _)); (fail_if_success (with_reducible show wpAny _ _ (exec (Stmt.For _ _ _ _ _) _) _ _ _)); first | (k_unfold; (try dsimp only)) | ((with_reducible refine hqk _ _ ?_); (try dsimp only)) | (walk1 <;> (try dsimp only)) | (dsimp only; walk1) | (leave1; walk_say "STEP leave1"; try dsimp only) | fail "no step")
    exact hret _ _ _ _ (by k_asm) (by k_asm)
  case turn =>
    clear F1 N1 iR
    rintro I i t m nx h tk oi hI hi ⟨p1', p2', p3', x1, x2, x3, u', e1, e2, e3, rfl, rfl⟩ F2 N2
    have F2 : Fr s₁.heap s₁.heap.objs.size h _ := F2
    have N2 : News s₁.heap s₁.heap.objs.size h _ := N2
    simp only [List.cons_append, List.nil_append] at N2
    have kI : Cel s₁.heap.objs.size I := .of_lt (hI (_, o1) (by simp only [List.mem_cons, true_or, or_true]))
    refine gen_post ?_
    intro MP hMP
    obtain ⟨r, hr, hrb⟩ : ∃ r : Int, -2 * wd + (i : Int) = r ∧ -4 ≤ r ∧ r ≤ 4 := ⟨_, rfl, by omega⟩
    rw [hr]
    clear hr
    rename_i Fz0 Nz1 hz2 tkz3 tz4 uz5 vz6 az7 F2z8 N2z9
    revert hrb; revert hMP; revert kI; revert N2; revert F2; revert N2z9; revert F2z8; revert e3; revert e2; revert e1; revert hi; revert hI; revert az7; revert Nz1; revert Fz0; revert iL; revert e4'; revert kLA; revert kR1; revert kR0; revert kSL; revert c4; revert c3; revert c2; revert c1; revert hwd2; revert d3; revert d2; revert d1; revert hret; revert K0; revert T; revert KX
    revert r; revert MP; revert u'; revert x3; revert x2; revert x1; revert p3'; revert p2'; revert p1'; revert oi; revert tk; revert h; revert t; revert i; revert I; revert tkz3; revert hz2
    exact HYP⟩
noncomputable def part5_B : PySem.Heap × Nat × PySem.Addr × Nat × PySem.Tok × PySem.Heap × Nat × PySem.Obj × PySem.Obj × PySem.Obj × PySem.Obj × (Option PySem.Value) × (Option PySem.Value) × (Option PySem.Value) × (PySem.Str → Option PySem.Value) × (PySem.Flow → PySem.Shared → Prop) × Int → Prop := fun v => part5_in.1 v.1 v.2.1 v.2.2.1 v.2.2.2.1 v.2.2.2.2.1 v.2.2.2.2.2.1 v.2.2.2.2.2.2.1 v.2.2.2.2.2.2.2.1 v.2.2.2.2.2.2.2.2.1 v.2.2.2.2.2.2.2.2.2.1 v.2.2.2.2.2.2.2.2.2.2.1 v.2.2.2.2.2.2.2.2.2.2.2.1 v.2.2.2.2.2.2.2.2.2.2.2.2.1 v.2.2.2.2.2.2.2.2.2.2.2.2.2.1 v.2.2.2.2.2.2.2.2.2.2.2.2.2.2.1 v.2.2.2.2.2.2.2.2.2.2.2.2.2.2.2.1 v.2.2.2.2.2.2.2.2.2.2.2.2.2.2.2.2
noncomputable def part5_v : PySem.Heap × Nat × PySem.Addr × Nat × PySem.Tok × PySem.Heap × Nat × PySem.Obj × PySem.Obj × PySem.Obj × PySem.Obj × (Option PySem.Value) × (Option PySem.Value) × (Option PySem.Value) × (PySem.Str → Option PySem.Value) × (PySem.Flow → PySem.Shared → Prop) × Int := Classical.choose (drink ⟨(default, default, default, default, default, default, default, default, default, default, default, default, default, default, default, default, default)⟩ part5_B)
theorem part5_s : part5_B part5_v → ∀ v, part5_B v := by
  with_unfolding_all exact Classical.choose_spec (drink ⟨(default, default, default, default, default, default, default, default, default, default, default, default, default, default, default, default, default)⟩ part5_B)
namespace part5K
noncomputable def hz2 : PySem.Heap := part5_v.1
noncomputable def tkz3 : Nat := part5_v.2.1
noncomputable def I : PySem.Addr := part5_v.2.2.1
noncomputable def i : Nat := part5_v.2.2.2.1
noncomputable def t : PySem.Tok := part5_v.2.2.2.2.1
noncomputable def h : PySem.Heap := part5_v.2.2.2.2.2.1
noncomputable def tk : Nat := part5_v.2.2.2.2.2.2.1
noncomputable def oi : PySem.Obj := part5_v.2.2.2.2.2.2.2.1
noncomputable def p1' : PySem.Obj := part5_v.2.2.2.2.2.2.2.2.1
noncomputable def p2' : PySem.Obj := part5_v.2.2.2.2.2.2.2.2.2.1
noncomputable def p3' : PySem.Obj := part5_v.2.2.2.2.2.2.2.2.2.2.1
noncomputable def x1 : Option PySem.Value := part5_v.2.2.2.2.2.2.2.2.2.2.2.1
noncomputable def x2 : Option PySem.Value := part5_v.2.2.2.2.2.2.2.2.2.2.2.2.1
noncomputable def x3 : Option PySem.Value := part5_v.2.2.2.2.2.2.2.2.2.2.2.2.2.1
noncomputable def u' : PySem.Str → Option PySem.Value := part5_v.2.2.2.2.2.2.2.2.2.2.2.2.2.2.1
noncomputable def MP : PySem.Flow → PySem.Shared → Prop := part5_v.2.2.2.2.2.2.2.2.2.2.2.2.2.2.2.1
noncomputable def r : Int := part5_v.2.2.2.2.2.2.2.2.2.2.2.2.2.2.2.2
end part5K
open Mine.part1K in
open Mine.part1aK in
open Mine.part1bK in
open Mine.part2zK hiding tk in
open Mine.part2bK hiding I h in
open Mine.part4K in
open Mine.part4fK in
open Mine.part5K in
theorem part5_c : part5_in.1 part5K.hz2 part5K.tkz3 part5K.I part5K.i part5K.t part5K.h part5K.tk part5K.oi part5K.p1' part5K.p2' part5K.p3' part5K.x1 part5K.x2 part5K.x3 part5K.u' part5K.MP part5K.r := by
  unfold part5_in
  dsimp only
  k_fill
  intro KX T K0 hret d1 d2 d3 hwd2 c1 c2 c3 c4 kSL kR0 kR1 kLA e4' iL Fz0 Nz1 az7 hI hi e1 e2 e3 F2z8 N2z9 F2 N2 kI hMP hrb
  --CUT1
  repeat' ((fail_if_success (with_reducible show wpAny _ _ (eval (Expr.ListComp _ _ _ _) _) _ _ _)); (fail_if_success (with_reducible show wpAny _ _ (exec (Stmt.Assign _ (Expr.ListComp _ _ _ _) _) _) _ _ _)); (fail_if_success (with_reducible show LCt.CompSrcT _ _ _ _ _ _ _ _ _ _ _ _ _ _ _)); (fail_if_success (with_reducible show wpAny _ _ (call (Value.ref _) _) _ _ _)); (fail_if_success (with_reducible show LCg.CompSrc _ _ _ _ _ _ _ _ _ _ _ _ _ _)); (fail_if_success (with_reducible show LCg.CompEnd _ _ _ _ _ _ _ _ _ _ _ _ _ _)); (fail_if_success (with_reducible show InvPostR _ _ _ _ _ _ _ _)); (fail_if_success (with_reducible show Mid0 _ _ _ _ _ _)); (fail_if_success (with_reducible show WhileStep2 _ _ _ _ _ _ _ _)); (fail_if_success (with_reducible show InvPostN _ _ _ _ _ _ _ _ _)); (fail_if_success (with_reducible show wpAny _ _ (exec (Stmt.While _ _ _ _) _) _ _ _)); (fail_if_success (with_reducible show wpAny _ _ (exec (Stmt.For _ _ _ _ _) _) _ _ _)); first | (k_unfold; (try dsimp only)) | ((with_reducible refine hqk _ _ ?_); (try dsimp only)) | (walk1 <;> (try dsimp only)) | (dsimp only; walk1) | (leave1; walk_say "STEP leave1"; try dsimp only) | fail "no step")
  rename_i h5 p3'' _ _ e3''
  (k_dflt (refine LCg.ListComp_U (F₀ := by k_asm) (by with_unfolding_all rfl) (by decide) (by rfl) (by decide) (by rfl) ?_))
  repeat' ((fail_if_success (with_reducible show LCg.CompSrc _ _ _ _ _ _ _ _ _ _ _ _ _ _)); (fail_if_success (with_reducible show LCg.CompEnd _ _ _ _ _ _ _ _ _ _ _ _ _ _)); (fail_if_success (with_reducible show InvPostR _ _ _ _ _ _ _ _)); (fail_if_success (with_reducible show Mid0 _ _ _ _ _ _)); (fail_if_success (with_reducible show WhileStep2 _ _ _ _ _ _ _ _)); (fail_if_success (with_reducible show InvPostN _ _ _ _ _ _ _ _ _)); (fail_if_success (with_reducible show wpAny _ _ (exec (Stmt.While _ _ _ _) _) _ _ _)); (fail_if_success (with_reducible show wpAny _ _ (exec (Stmt.For _ _ _ _ _) _) _ _ _)); first | (k_unfold; (try dsimp only)) | ((with_reducible refine hqk _ _ ?_); (try dsimp only)) | (walk1 <;> (try dsimp only)) | (dsimp only; walk1) | (leave1; walk_say "STEP leave1"; try dsimp only) | fail "no step")
  (rename Fr _ _ _ _ => F1); (rename News _ _ _ _ => N1)
  refine LCg.CompSrc.ledger (by rfl) F1 N1 (by k_mem) (by rw [List.size_toArray]; size_fits) ?_
  clear F1
  intro gA
  refine comp_inv (n := 2) (fun j ys nx => nx = (SL, listOf [Value.ref R0, Value.ref R1].toArray nz) :: (R0, listOf [Value.int (p1 - p0) tb, .int (p2 - p1) tc, .int (p3 - p2) td].toArray m0) :: (R1, listOf [Value.int (q1 - q0) t4, .int (q2 - q1) t5, .int (q3 - q2) t6].toArray m1) :: (LA, LCg.lst ys2) :: (s₁.heap.objs.size + 1 + 1 + 1 + 1 + 1 + 1 + 1 + 1 + 1 + 1, p1') :: (s₁.heap.objs.size + 1 + 1 + 1 + 1 + 1 + 1 + 1 + 1 + 1, p2') :: (s₁.heap.objs.size + 1 + 1 + 1 + 1 + 1 + 1 + 1 + 1, p3'') :: (s₁.heap.objs.size + 1 + 1 + 1 + 1 + 1 + 1 + 1, o4') :: (I, oi) :: [] ∧ IntsAre ys ((List.range j).map fun (j : Nat) => [bl (p1 - p0) (p2 - p1) (p3 - p2) r, bl (q1 - q0) (q2 - q1) (q3 - q2) r].getD j 0)) ?tA ?fA 2 0 [] _ rfl ⟨rfl, .nil⟩
  case tA =>
    clear N1
    rintro j v I2 oI2 C2 oC2 D2 m₂ h tk E' ys nx hj ⟨rfl, iy⟩ hv hC2 hx F2 N2 off ne
    refine gen_post1 ?_
    intro CP hCP
    obtain ⟨RX, a, b, c, ea, eb, ec, mx, rfl, hRX, hval⟩ : ∃ (RX : Addr) (a b c : Int) (ea eb ec : Tok) (mx : Nat), v = .ref RX ∧ (RX, listOf [Value.int a ea, .int b eb, .int c ec].toArray mx) ∈ (I2, oI2) :: (C2, oC2) :: (D2, LCg.lst ys) :: (SL, listOf [Value.ref R0, Value.ref R1].toArray nz) :: (R0, listOf [Value.int (p1 - p0) tb, .int (p2 - p1) tc, .int (p3 - p2) td].toArray m0) :: (R1, listOf [Value.int (q1 - q0) t4, .int (q2 - q1) t5, .int (q3 - q2) t6].toArray m1) :: (LA, LCg.lst ys2) :: (s₁.heap.objs.size + 1 + 1 + 1 + 1 + 1 + 1 + 1 + 1 + 1 + 1, p1') :: (s₁.heap.objs.size + 1 + 1 + 1 + 1 + 1 + 1 + 1 + 1 + 1, p2') :: (s₁.heap.objs.size + 1 + 1 + 1 + 1 + 1 + 1 + 1 + 1, p3'') :: (s₁.heap.objs.size + 1 + 1 + 1 + 1 + 1 + 1 + 1, o4') :: (I, oi) :: [] ∧ bl a b c r = [bl (p1 - p0) (p2 - p1) (p3 - p2) r, bl (q1 - q0) (q2 - q1) (q3 - q2) r].getD j 0 := by
      match j, hv with
      | 0, hv => exact ⟨R0, _, _, _, _, _, _, _, (Option.some.inj hv).symm, by k_mem, rfl⟩
      | 1, hv => exact ⟨R1, _, _, _, _, _, _, _, (Option.some.inj hv).symm, by k_mem, rfl⟩
    clear hv
    repeat' ((fail_if_success (with_reducible show wpAny _ _ (call (Value.ref _) _) _ _ _)); (fail_if_success (with_reducible show LCg.CompSrc _ _ _ _ _ _ _ _ _ _ _ _ _ _)); (fail_if_success (with_reducible show LCg.CompEnd _ _ _ _ _ _ _ _ _ _ _ _ _ _)); (fail_if_success (with_reducible show InvPostR _ _ _ _ _ _ _ _)); (fail_if_success (with_reducible show Mid0 _ _ _ _ _ _)); (fail_if_success (with_reducible show WhileStep2 _ _ _ _ _ _ _ _)); (fail_if_success (with_reducible show InvPostN _ _ _ _ _ _ _ _ _)); (fail_if_success (with_reducible show wpAny _ _ (exec (Stmt.While _ _ _ _) _) _ _ _)); (fail_if_success (with_reducible show wpAny _ _ (exec (Stmt.For _ _ _ _ _) _) _ _ _)); first | (k_unfold; (try dsimp only)) | ((with_reducible refine hqk _ _ ?_); (try dsimp only)) | (walk1 <;> (try dsimp only)) | (dsimp only; walk1) | (leave1; walk_say "STEP leave1"; try dsimp only) | fail "no step")
    refine' spc_use (bl_spc _ _ _ _ _ _ _ _ _ _ _ _ _ _ _ ?a1A) ?k1A ?k2A ?k3A ?k4A ?k5A ?k6A ?k7A ?k8A ?_
    (case k1A => exact K0)
    (case k2A => exact F2)
    (case k3A => k_asm)
    (case k4A => exact N2)
    (case k5A => k_asm)
    (case k6A => first | exact rfl | assumption)
    (case k7A => ktr_room)
    (case k8A => ktr_units)
    (case a1A => exact hRX)
    dsimp only [RetV]
    intro tS hS kS FS NS
    rw [hval]
    exact hCP _ _ (LCg.CompEnd.intro FS NS _ (fun p hp => hp) off (Or.inr ⟨_, by k_mem, rfl, _, rfl⟩) ⟨rfl, ia_range (f := fun (j : Nat) => [bl (p1 - p0) (p2 - p1) (p3 - p2) r, bl (q1 - q0) (q2 - q1) (q3 - q2) r].getD j 0) iy⟩)
  rintro ysA nxA ⟨hnx, iyA⟩
  unfold LCg.FinE
  intro ZA h tk F2 N2 oZA
  rw [hnx] at N2 oZA
  clear hnx nxA N1
  replace iyA : IntsAre ysA [bl (p1 - p0) (p2 - p1) (p3 - p2) r, bl (q1 - q0) (q2 - q1) (q3 - q2) r] := iyA
  dsimp only
  repeat' ((fail_if_success (with_reducible show wpAny _ _ (eval (Expr.ListComp _ _ _ _) _) _ _ _)); (fail_if_success (with_reducible show wpAny _ _ (exec (Stmt.Assign _ (Expr.ListComp _ _ _ _) _) _) _ _ _)); (fail_if_success (with_reducible show LCt.CompSrcT _ _ _ _ _ _ _ _ _ _ _ _ _ _ _)); (fail_if_success (with_reducible show wpAny _ _ (call (Value.ref _) _) _ _ _)); (fail_if_success (with_reducible show LCg.CompSrc _ _ _ _ _ _ _ _ _ _ _ _ _ _)); (fail_if_success (with_reducible show LCg.CompEnd _ _ _ _ _ _ _ _ _ _ _ _ _ _)); (fail_if_success (with_reducible show InvPostR _ _ _ _ _ _ _ _)); (fail_if_success (with_reducible show Mid0 _ _ _ _ _ _)); (fail_if_success (with_reducible show WhileStep2 _ _ _ _ _ _ _ _)); (fail_if_success (with_reducible show InvPostN _ _ _ _ _ _ _ _ _)); (fail_if_success (with_reducible show wpAny _ _ (exec (Stmt.While _ _ _ _) _) _ _ _)); (fail_if_success (with_reducible show wpAny _ _ (exec (Stmt.For _ _ _ _ _) _) _ _ _)); first | (k_unfold; (try dsimp only)) | ((with_reducible refine hqk _ _ ?_); (try dsimp only)) | (walk1 <;> (try dsimp only)) | (dsimp only; walk1) | (leave1; walk_say "STEP leave1"; try dsimp only) | fail "no step")
  (rename Fr _ _ _ _ => F1); (rename News _ _ _ _ => N1)
  replace N1 : News s₁.heap s₁.heap.objs.size _ ((SL, listOf [Value.ref R0, Value.ref R1].toArray nz) :: (R0, listOf [Value.int (p1 - p0) tb, .int (p2 - p1) tc, .int (p3 - p2) td].toArray m0) :: (R1, listOf [Value.int (q1 - q0) t4, .int (q2 - q1) t5, .int (q3 - q2) t6].toArray m1) :: (LA, LCg.lst ys2) :: (s₁.heap.objs.size + 1 + 1 + 1 + 1 + 1 + 1 + 1 + 1 + 1 + 1, p1') :: (s₁.heap.objs.size + 1 + 1 + 1 + 1 + 1 + 1 + 1 + 1 + 1, p2') :: (s₁.heap.objs.size + 1 + 1 + 1 + 1 + 1 + 1 + 1 + 1, p3'') :: (s₁.heap.objs.size + 1 + 1 + 1 + 1 + 1 + 1 + 1, o4') :: (I, oi) :: []) := fun p hp => N1 p (.tail _ hp)
  generalize hfw : bl (p1 - p0) (p2 - p1) (p3 - p2) r + (bl (q1 - q0) (q2 - q1) (q3 - q2) r + 0) = fw at F1
  clear oZA iyA
  (k_dflt (refine LCg.ListComp_U (F₀ := by k_asm) (by with_unfolding_all rfl) (by decide) (by rfl) (by decide) (by rfl) ?_))
  repeat' ((fail_if_success (with_reducible show LCg.CompSrc _ _ _ _ _ _ _ _ _ _ _ _ _ _)); (fail_if_success (with_reducible show LCg.CompEnd _ _ _ _ _ _ _ _ _ _ _ _ _ _)); (fail_if_success (with_reducible show InvPostR _ _ _ _ _ _ _ _)); (fail_if_success (with_reducible show Mid0 _ _ _ _ _ _)); (fail_if_success (with_reducible show WhileStep2 _ _ _ _ _ _ _ _)); (fail_if_success (with_reducible show InvPostN _ _ _ _ _ _ _ _ _)); (fail_if_success (with_reducible show wpAny _ _ (exec (Stmt.While _ _ _ _) _) _ _ _)); (fail_if_success (with_reducible show wpAny _ _ (exec (Stmt.For _ _ _ _ _) _) _ _ _)); first | (k_unfold; (try dsimp only)) | ((with_reducible refine hqk _ _ ?_); (try dsimp only)) | (walk1 <;> (try dsimp only)) | (dsimp only; walk1) | (leave1; walk_say "STEP leave1"; try dsimp only) | fail "no step")
  (rename Fr _ _ _ _ => F1); (rename News _ _ _ _ => N1)
  refine LCg.CompSrc.ledger (by rfl) F1 N1 (by k_mem) (by rw [List.size_toArray]; size_fits) ?_
  clear F1
  intro gB
  refine comp_inv (n := 2) (fun j ys nx => nx = (SL, listOf [Value.ref R0, Value.ref R1].toArray nz) :: (R0, listOf [Value.int (p1 - p0) tb, .int (p2 - p1) tc, .int (p3 - p2) td].toArray m0) :: (R1, listOf [Value.int (q1 - q0) t4, .int (q2 - q1) t5, .int (q3 - q2) t6].toArray m1) :: (LA, LCg.lst ys2) :: (s₁.heap.objs.size + 1 + 1 + 1 + 1 + 1 + 1 + 1 + 1 + 1 + 1, p1') :: (s₁.heap.objs.size + 1 + 1 + 1 + 1 + 1 + 1 + 1 + 1 + 1, p2') :: (s₁.heap.objs.size + 1 + 1 + 1 + 1 + 1 + 1 + 1 + 1, p3'') :: (s₁.heap.objs.size + 1 + 1 + 1 + 1 + 1 + 1 + 1, o4') :: (I, oi) :: [] ∧ IntsAre ys ((List.range j).map fun (j : Nat) => [br (p1 - p0) (p2 - p1) (p3 - p2) r, br (q1 - q0) (q2 - q1) (q3 - q2) r].getD j 0)) ?tB ?fB 2 0 [] _ rfl ⟨rfl, .nil⟩
  case tB =>
    clear N1
    rintro j v I2 oI2 C2 oC2 D2 m₂ h tk E' ys nx hj ⟨rfl, iy⟩ hv hC2 hx F2 N2 off ne
    refine gen_post1 ?_
    intro CP hCP
    obtain ⟨RX, a, b, c, ea, eb, ec, mx, rfl, hRX, hval⟩ : ∃ (RX : Addr) (a b c : Int) (ea eb ec : Tok) (mx : Nat), v = .ref RX ∧ (RX, listOf [Value.int a ea, .int b eb, .int c ec].toArray mx) ∈ (I2, oI2) :: (C2, oC2) :: (D2, LCg.lst ys) :: (SL, listOf [Value.ref R0, Value.ref R1].toArray nz) :: (R0, listOf [Value.int (p1 - p0) tb, .int (p2 - p1) tc, .int (p3 - p2) td].toArray m0) :: (R1, listOf [Value.int (q1 - q0) t4, .int (q2 - q1) t5, .int (q3 - q2) t6].toArray m1) :: (LA, LCg.lst ys2) :: (s₁.heap.objs.size + 1 + 1 + 1 + 1 + 1 + 1 + 1 + 1 + 1 + 1, p1') :: (s₁.heap.objs.size + 1 + 1 + 1 + 1 + 1 + 1 + 1 + 1 + 1, p2') :: (s₁.heap.objs.size + 1 + 1 + 1 + 1 + 1 + 1 + 1 + 1, p3'') :: (s₁.heap.objs.size + 1 + 1 + 1 + 1 + 1 + 1 + 1, o4') :: (I, oi) :: [] ∧ br a b c r = [br (p1 - p0) (p2 - p1) (p3 - p2) r, br (q1 - q0) (q2 - q1) (q3 - q2) r].getD j 0 := by
      match j, hv with
      | 0, hv => exact ⟨R0, _, _, _, _, _, _, _, (Option.some.inj hv).symm, by k_mem, rfl⟩
      | 1, hv => exact ⟨R1, _, _, _, _, _, _, _, (Option.some.inj hv).symm, by k_mem, rfl⟩
    clear hv
    repeat' ((fail_if_success (with_reducible show wpAny _ _ (call (Value.ref _) _) _ _ _)); (fail_if_success (with_reducible show LCg.CompSrc _ _ _ _ _ _ _ _ _ _ _ _ _ _)); (fail_if_success (with_reducible show LCg.CompEnd _ _ _ _ _ _ _ _ _ _ _ _ _ _)); (fail_if_success (with_reducible show InvPostR _ _ _ _ _ _ _ _)); (fail_if_success (with_reducible show Mid0 _ _ _ _ _ _)); (fail_if_success (with_reducible show WhileStep2 _ _ _ _ _ _ _ _)); (fail_if_success (with_reducible show InvPostN _ _ _ _ _ _ _ _ _)); (fail_if_success (with_reducible show wpAny _ _ (exec (Stmt.While _ _ _ _) _) _ _ _)); (fail_if_success (with_reducible show wpAny _ _ (exec (Stmt.For _ _ _ _ _) _) _ _ _)); first | (k_unfold; (try dsimp only)) | ((with_reducible refine hqk _ _ ?_); (try dsimp only)) | (walk1 <;> (try dsimp only)) | (dsimp only; walk1) | (leave1; walk_say "STEP leave1"; try dsimp only) | fail "no step")
    refine' spc_use (br_spc _ _ _ _ _ _ _ _ _ _ _ _ _ _ _ ?a1B) ?k1B ?k2B ?k3B ?k4B ?k5B ?k6B ?k7B ?k8B ?_
    (case k1B => exact K0)
    (case k2B => exact F2)
    (case k3B => k_asm)
    (case k4B => exact N2)
    (case k5B => k_asm)
    (case k6B => first | exact rfl | assumption)
    (case k7B => ktr_room)
    (case k8B => ktr_units)
    (case a1B => exact hRX)
    dsimp only [RetV]
    intro tS hS kS FS NS
    rw [hval]
    exact hCP _ _ (LCg.CompEnd.intro FS NS _ (fun p hp => hp) off (Or.inr ⟨_, by k_mem, rfl, _, rfl⟩) ⟨rfl, ia_range (f := fun (j : Nat) => [br (p1 - p0) (p2 - p1) (p3 - p2) r, br (q1 - q0) (q2 - q1) (q3 - q2) r].getD j 0) iy⟩)
  rintro ysB nxB ⟨hnx, iyB⟩
  unfold LCg.FinE
  intro ZB h tk F2 N2 oZB
  rw [hnx] at N2 oZB
  clear hnx nxB N1
  replace iyB : IntsAre ysB [br (p1 - p0) (p2 - p1) (p3 - p2) r, br (q1 - q0) (q2 - q1) (q3 - q2) r] := iyB
  dsimp only
  repeat' ((fail_if_success (with_reducible show wpAny _ _ (eval (Expr.ListComp _ _ _ _) _) _ _ _)); (fail_if_success (with_reducible show wpAny _ _ (exec (Stmt.Assign _ (Expr.ListComp _ _ _ _) _) _) _ _ _)); (fail_if_success (with_reducible show LCt.CompSrcT _ _ _ _ _ _ _ _ _ _ _ _ _ _ _)); (fail_if_success (with_reducible show wpAny _ _ (call (Value.ref _) _) _ _ _)); (fail_if_success (with_reducible show LCg.CompSrc _ _ _ _ _ _ _ _ _ _ _ _ _ _)); (fail_if_success (with_reducible show LCg.CompEnd _ _ _ _ _ _ _ _ _ _ _ _ _ _)); (fail_if_success (with_reducible show InvPostR _ _ _ _ _ _ _ _)); (fail_if_success (with_reducible show Mid0 _ _ _ _ _ _)); (fail_if_success (with_reducible show WhileStep2 _ _ _ _ _ _ _ _)); (fail_if_success (with_reducible show InvPostN _ _ _ _ _ _ _ _ _)); (fail_if_success (with_reducible show wpAny _ _ (exec (Stmt.While _ _ _ _) _) _ _ _)); (fail_if_success (with_reducible show wpAny _ _ (exec (Stmt.For _ _ _ _ _) _) _ _ _)); first | (k_unfold; (try dsimp only)) | ((with_reducible refine hqk _ _ ?_); (try dsimp only)) | (walk1 <;> (try dsimp only)) | (dsimp only; walk1) | (leave1; walk_say "STEP leave1"; try dsimp only) | fail "no step")
  (rename Fr _ _ _ _ => F1); (rename News _ _ _ _ => N1)
  replace N1 : News s₁.heap s₁.heap.objs.size _ ((SL, listOf [Value.ref R0, Value.ref R1].toArray nz) :: (R0, listOf [Value.int (p1 - p0) tb, .int (p2 - p1) tc, .int (p3 - p2) td].toArray m0) :: (R1, listOf [Value.int (q1 - q0) t4, .int (q2 - q1) t5, .int (q3 - q2) t6].toArray m1) :: (LA, LCg.lst ys2) :: (s₁.heap.objs.size + 1 + 1 + 1 + 1 + 1 + 1 + 1 + 1 + 1 + 1, p1') :: (s₁.heap.objs.size + 1 + 1 + 1 + 1 + 1 + 1 + 1 + 1 + 1, p2') :: (s₁.heap.objs.size + 1 + 1 + 1 + 1 + 1 + 1 + 1 + 1, p3'') :: (s₁.heap.objs.size + 1 + 1 + 1 + 1 + 1 + 1 + 1, o4') :: (I, oi) :: []) := fun p hp => N1 p (.tail _ hp)
  generalize hmw : br (p1 - p0) (p2 - p1) (p3 - p2) r + (br (q1 - q0) (q2 - q1) (q3 - q2) r + 0) = mw at F1
  clear oZB iyB
  have hfb := fwd_b hfw
  have hmb := mwd_b hmw
  have hLl := LS_len p0 p1 p2 p3 q0 q1 q2 q3
  have hys2 := iL.length
  first | (k_unfold; (try dsimp only)) | ((with_reducible refine hqk _ _ ?_); (try dsimp only)) | (walk1 <;> (try dsimp only)) | (dsimp only; walk1) | (leave1; walk_say "STEP leave1"; try dsimp only) | fail "no step"
  (k_dflt (refine LCg.ListComp_U (F₀ := by k_asm) (by with_unfolding_all rfl) (by decide) (by rfl) (by decide) (by rfl) ?_))
  repeat' ((fail_if_success (with_reducible show LCg.CompSrc _ _ _ _ _ _ _ _ _ _ _ _ _ _)); (fail_if_success (with_reducible show LCg.CompEnd _ _ _ _ _ _ _ _ _ _ _ _ _ _)); (fail_if_success (with_reducible show InvPostR _ _ _ _ _ _ _ _)); (fail_if_success (with_reducible show Mid0 _ _ _ _ _ _)); (fail_if_success (with_reducible show WhileStep2 _ _ _ _ _ _ _ _)); (fail_if_success (with_reducible show InvPostN _ _ _ _ _ _ _ _ _)); (fail_if_success (with_reducible show wpAny _ _ (exec (Stmt.While _ _ _ _) _) _ _ _)); (fail_if_success (with_reducible show wpAny _ _ (exec (Stmt.For _ _ _ _ _) _) _ _ _)); first | (k_unfold; (try dsimp only)) | ((with_reducible refine hqk _ _ ?_); (try dsimp only)) | (walk1 <;> (try dsimp only)) | (dsimp only; walk1) | (leave1; walk_say "STEP leave1"; try dsimp only) | fail "no step")
  (rename Fr _ _ _ _ => F1); (rename News _ _ _ _ => N1)
  rename IsRange _ _ _ _ _ _ _ _ => iR
  refine LCg.CompSrc.range (n := 7) (by rfl) F1 N1 iR (small_one (by decide) (by decide) (by decide) (by decide)) rfl (by size_fits) ?_
  clear F1
  intro gC
  refine comp_inv (n := 7) (fun j ys nx => nx = (SL, listOf [Value.ref R0, Value.ref R1].toArray nz) :: (R0, listOf [Value.int (p1 - p0) tb, .int (p2 - p1) tc, .int (p3 - p2) td].toArray m0) :: (R1, listOf [Value.int (q1 - q0) t4, .int (q2 - q1) t5, .int (q3 - q2) t6].toArray m1) :: (LA, LCg.lst ys2) :: (s₁.heap.objs.size + 1 + 1 + 1 + 1 + 1 + 1 + 1 + 1 + 1 + 1, p1') :: (s₁.heap.objs.size + 1 + 1 + 1 + 1 + 1 + 1 + 1 + 1 + 1, p2') :: (s₁.heap.objs.size + 1 + 1 + 1 + 1 + 1 + 1 + 1 + 1, p3'') :: (s₁.heap.objs.size + 1 + 1 + 1 + 1 + 1 + 1 + 1, o4') :: (I, oi) :: [] ∧ IntsAre ys ((List.range j).map (left (LS p0 p1 p2 p3 q0 q1 q2 q3) r))) ?tC ?fC 7 0 [] _ rfl ⟨rfl, .nil⟩
  case tC =>
    clear N1
    rintro j v I2 oI2 C2 oC2 D2 m₂ h tk E' ys nx hj ⟨rfl, iy⟩ ⟨t', rfl⟩ hC2 hx F2 N2 off ne
    rw [show (0 : Int) + (j : Int) = (j : Int) from Int.zero_add _] at hx
    refine gen_post1 ?_
    intro CP hCP
    repeat' ((fail_if_success (with_reducible show LCg.CompSrc _ _ _ _ _ _ _ _ _ _ _ _ _ _)); (fail_if_success (with_reducible show LCg.CompEnd _ _ _ _ _ _ _ _ _ _ _ _ _ _)); (fail_if_success (with_reducible show InvPostR _ _ _ _ _ _ _ _)); (fail_if_success (with_reducible show Mid0 _ _ _ _ _ _)); (fail_if_success (with_reducible show WhileStep2 _ _ _ _ _ _ _ _)); (fail_if_success (with_reducible show InvPostN _ _ _ _ _ _ _ _ _)); (fail_if_success (with_reducible show wpAny _ _ (exec (Stmt.While _ _ _ _) _) _ _ _)); (fail_if_success (with_reducible show wpAny _ _ (exec (Stmt.For _ _ _ _ _) _) _ _ _)); first | (k_unfold; (try dsimp only)) | ((with_reducible refine hqk _ _ ?_); (try dsimp only)) | (walk1 <;> (try dsimp only)) | (dsimp only; walk1) | (leave1; walk_say "STEP leave1"; try dsimp only) | fail "no step")
    rw [Int.toNat_natCast]
    exact hCP _ _ (LCg.CompEnd.intro F2 N2 _ (fun p hp => hp) off trivial ⟨rfl, ia_range (f := left (LS p0 p1 p2 p3 q0 q1 q2 q3) r) iy⟩)
  rintro ysL nxL ⟨hnx, iyL⟩
  unfold LCg.FinE
  intro ZL h tk F2 N2 oZL
  rw [hnx] at N2 oZL
  clear hnx nxL N1 iR
  have oL := off1_nat oZL
  simp only [List.forall_mem_cons] at oL
  have kZL : Cel s₁.heap.objs.size ZL := .mk4 oL.2.2.2.2.1 oL.2.2.2.2.2.1 oL.2.2.2.2.2.2.1 oL.2.2.2.2.2.2.2.1
  clear oL oZL
  have hLf : 0 < ((List.range 7).map (left (LS p0 p1 p2 p3 q0 q1 q2 q3) r)).length := by rw [List.length_map]; decide
  dsimp only
  repeat' ((fail_if_success (with_reducible show wpAny _ _ (eval (Expr.ListComp _ _ _ _) _) _ _ _)); (fail_if_success (with_reducible show wpAny _ _ (exec (Stmt.Assign _ (Expr.ListComp _ _ _ _) _) _) _ _ _)); (fail_if_success (with_reducible show LCt.CompSrcT _ _ _ _ _ _ _ _ _ _ _ _ _ _ _)); (fail_if_success (with_reducible show wpAny _ _ (call (Value.ref _) _) _ _ _)); (fail_if_success (with_reducible show LCg.CompSrc _ _ _ _ _ _ _ _ _ _ _ _ _ _)); (fail_if_success (with_reducible show LCg.CompEnd _ _ _ _ _ _ _ _ _ _ _ _ _ _)); (fail_if_success (with_reducible show InvPostR _ _ _ _ _ _ _ _)); (fail_if_success (with_reducible show Mid0 _ _ _ _ _ _)); (fail_if_success (with_reducible show WhileStep2 _ _ _ _ _ _ _ _)); (fail_if_success (with_reducible show InvPostN _ _ _ _ _ _ _ _ _)); (fail_if_success (with_reducible show wpAny _ _ (exec (Stmt.While _ _ _ _) _) _ _ _)); (fail_if_success (with_reducible show wpAny _ _ (exec (Stmt.For _ _ _ _ _) _) _ _ _)); first | (k_unfold; (try dsimp only)) | ((with_reducible refine hqk _ _ ?_); (try dsimp only)) | (walk1 <;> (try dsimp only)) | (dsimp only; walk1) | (leave1; walk_say "STEP leave1"; try dsimp only) | fail "no step")
  rename_i _ p2'' e2'' _ M _ _ hM1 hM2 _ p1'' F1 N1 e1''
  have hl7 : ((List.range 7).map (left (LS p0 p1 p2 p3 q0 q1 q2 q3) r)).length = 7 := by rw [List.length_map]; rfl
  have hysL := iyL.length
  (k_dflt (refine LCt.ListComp_T (F₀ := by k_asm) (by with_unfolding_all rfl) (by decide) (by rfl) (by decide) (by rfl) ?_))
  repeat' ((fail_if_success (with_reducible show wpAny _ _ (eval (Expr.ListComp _ _ _ _) _) _ _ _)); (fail_if_success (with_reducible show wpAny _ _ (exec (Stmt.Assign _ (Expr.ListComp _ _ _ _) _) _) _ _ _)); (fail_if_success (with_reducible show LCt.CompSrcT _ _ _ _ _ _ _ _ _ _ _ _ _ _ _)); (fail_if_success (with_reducible show wpAny _ _ (call (Value.ref _) _) _ _ _)); (fail_if_success (with_reducible show LCg.CompSrc _ _ _ _ _ _ _ _ _ _ _ _ _ _)); (fail_if_success (with_reducible show LCg.CompEnd _ _ _ _ _ _ _ _ _ _ _ _ _ _)); (fail_if_success (with_reducible show InvPostR _ _ _ _ _ _ _ _)); (fail_if_success (with_reducible show Mid0 _ _ _ _ _ _)); (fail_if_success (with_reducible show WhileStep2 _ _ _ _ _ _ _ _)); (fail_if_success (with_reducible show InvPostN _ _ _ _ _ _ _ _ _)); (fail_if_success (with_reducible show wpAny _ _ (exec (Stmt.While _ _ _ _) _) _ _ _)); (fail_if_success (with_reducible show wpAny _ _ (exec (Stmt.For _ _ _ _ _) _) _ _ _)); first | (k_unfold; (try dsimp only)) | ((with_reducible refine hqk _ _ ?_); (try dsimp only)) | (walk1 <;> (try dsimp only)) | (dsimp only; walk1) | (leave1; walk_say "STEP leave1"; try dsimp only) | fail "no step")
  (rename Fr _ _ _ _ => F1); (rename News _ _ _ _ => N1)
  rename IsRange _ _ _ _ _ _ _ _ => iR
  refine LCt.CompSrcT.range (n := 7) (by rfl) F1 N1 iR (small_one (by decide) (by decide) (by decide) (by decide)) rfl (by size_fits) ?_
  clear F1
  intro gD
  refine comp_invT (n := 7) (fun j zs nx => nx = (ZL, LCg.lst ysL) :: (SL, listOf [Value.ref R0, Value.ref R1].toArray nz) :: (R0, listOf [Value.int (p1 - p0) tb, .int (p2 - p1) tc, .int (p3 - p2) td].toArray m0) :: (R1, listOf [Value.int (q1 - q0) t4, .int (q2 - q1) t5, .int (q3 - q2) t6].toArray m1) :: (LA, LCg.lst ys2) :: (s₁.heap.objs.size + 1 + 1 + 1 + 1 + 1 + 1 + 1 + 1 + 1 + 1, p1'') :: (s₁.heap.objs.size + 1 + 1 + 1 + 1 + 1 + 1 + 1 + 1 + 1, p2'') :: (s₁.heap.objs.size + 1 + 1 + 1 + 1 + 1 + 1 + 1 + 1, p3'') :: (s₁.heap.objs.size + 1 + 1 + 1 + 1 + 1 + 1 + 1, o4') :: (I, oi) :: [] ∧ IntsAre zs (low (LS p0 p1 p2 p3 q0 q1 q2 q3) r M j)) ?tD ?fD 7 0 [] _ rfl ⟨rfl, .nil⟩
  case tD =>
    clear N1
    rintro j v I2 oI2 C2 oC2 D2 m₂ h tk E' ys nx hj ⟨rfl, iy⟩ ⟨t', rfl⟩ hC2 hx F2 N2 off ne
    rw [show (0 : Int) + (j : Int) = (j : Int) from by omega] at hx
    have hgj : ((List.range 7).map (left (LS p0 p1 p2 p3 q0 q1 q2 q3) r)).getD (j : Int).toNat 0 = left (LS p0 p1 p2 p3 q0 q1 q2 q3) r j := by
      rw [Int.toNat_natCast]; simp [List.getD, hj]
    repeat' ((fail_if_success (with_reducible show wpAny _ _ (eval (Expr.ListComp _ _ _ _) _) _ _ _)); (fail_if_success (with_reducible show wpAny _ _ (exec (Stmt.Assign _ (Expr.ListComp _ _ _ _) _) _) _ _ _)); (fail_if_success (with_reducible show LCt.CompSrcT _ _ _ _ _ _ _ _ _ _ _ _ _ _ _)); (fail_if_success (with_reducible show wpAny _ _ (call (Value.ref _) _) _ _ _)); (fail_if_success (with_reducible show LCg.CompSrc _ _ _ _ _ _ _ _ _ _ _ _ _ _)); (fail_if_success (with_reducible show LCg.CompEnd _ _ _ _ _ _ _ _ _ _ _ _ _ _)); (fail_if_success (with_reducible show InvPostR _ _ _ _ _ _ _ _)); (fail_if_success (with_reducible show Mid0 _ _ _ _ _ _)); (fail_if_success (with_reducible show WhileStep2 _ _ _ _ _ _ _ _)); (fail_if_success (with_reducible show InvPostN _ _ _ _ _ _ _ _ _)); (fail_if_success (with_reducible show wpAny _ _ (exec (Stmt.While _ _ _ _) _) _ _ _)); (fail_if_success (with_reducible show wpAny _ _ (exec (Stmt.For _ _ _ _ _) _) _ _ _)); first | (k_unfold; (try dsimp only)) | ((with_reducible refine hqk _ _ ?_); (try dsimp only)) | (walk1 <;> (try dsimp only)) | (dsimp only; walk1) | (leave1; walk_say "STEP leave1"; try dsimp only) | fail "no step")
    · rename _ = M => hq
      rw [hgj] at hq
      exact LCg.CompEnd.intro F2 N2 _ (fun p hp => hp) off trivial ⟨rfl, by rw [low_in hq]; exact ia_snoc iy⟩
    · rename ¬ _ = M => hq
      rw [hgj] at hq
      exact LCg.CompEnd.intro F2 N2 _ (fun p hp => hp) off trivial ⟨rfl, by rw [low_out hq]; exact iy⟩
  rintro ysM nxM ⟨hnx, iyM⟩
  unfold LCg.FinE
  intro ZM h tk F2 N2 oZM
  rw [hnx] at N2
  clear hnx nxM N1 iR oZM
  dsimp only
  repeat' ((fail_if_success (with_reducible show wpAny _ _ (eval (Expr.ListComp _ _ _ _) _) _ _ _)); (fail_if_success (with_reducible show wpAny _ _ (exec (Stmt.Assign _ (Expr.ListComp _ _ _ _) _) _) _ _ _)); (fail_if_success (with_reducible show LCt.CompSrcT _ _ _ _ _ _ _ _ _ _ _ _ _ _ _)); (fail_if_success (with_reducible show wpAny _ _ (call (Value.ref _) _) _ _ _)); (fail_if_success (with_reducible show LCg.CompSrc _ _ _ _ _ _ _ _ _ _ _ _ _ _)); (fail_if_success (with_reducible show LCg.CompEnd _ _ _ _ _ _ _ _ _ _ _ _ _ _)); (fail_if_success (with_reducible show InvPostR _ _ _ _ _ _ _ _)); (fail_if_success (with_reducible show Mid0 _ _ _ _ _ _)); (fail_if_success (with_reducible show WhileStep2 _ _ _ _ _ _ _ _)); (fail_if_success (with_reducible show InvPostN _ _ _ _ _ _ _ _ _)); (fail_if_success (with_reducible show wpAny _ _ (exec (Stmt.While _ _ _ _) _) _ _ _)); (fail_if_success (with_reducible show wpAny _ _ (exec (Stmt.For _ _ _ _ _) _) _ _ _)); first | (k_unfold; (try dsimp only)) | ((with_reducible refine hqk _ _ ?_); (try dsimp only)) | (walk1 <;> (try dsimp only)) | (dsimp only; walk1) | (leave1; walk_say "STEP leave1"; try dsimp only) | fail "no step")
  all_goals first
    | exact absurd (lowest_is c1 c2 c3 c4 hfw hmw hM1 hM2) (by assumption)
    | skip
  (rename Fr _ _ _ _ => F1); (rename News _ _ _ _ => N1)
  refine' hMP _ _ (InvPostR.next F1 N1 ?hnZ ?hoZ ?hfZ ⟨p1'', p2'', p3'', _, _, _, ?uZ, e1'', e2'', e3'', rfl, ?mZ⟩)
  case hnZ => repeat' (first | exact List.forall_mem_nil _ | refine List.forall_mem_cons.mpr ⟨by simp only [List.mem_cons, true_or, or_true], ?_⟩)
  case hoZ => repeat' (first | exact List.forall_mem_nil _ | refine List.forall_mem_cons.mpr ⟨by simp only [List.mem_cons, true_or, or_true], ?_⟩)
  case hfZ =>
    intro p hp q hq
    rw [List.mem_singleton.mp hq]
    revert p hp
    simp only [List.forall_mem_cons] at hI ⊢
    exact ⟨Nat.ne_of_lt hI.1, Nat.ne_of_lt hI.2.1, Nat.ne_of_lt hI.2.2.1, Nat.ne_of_lt hI.2.2.2.1, Nat.ne_of_lt hI.2.2.2.2.1, Nat.ne_of_lt hI.2.2.2.2.2.1, Nat.ne_of_lt hI.2.2.2.2.2.2.1, Nat.ne_of_lt hI.2.2.2.2.2.2.2.1, List.forall_mem_nil _⟩
  case mZ => (refine feqj [Str.ofString "rises", Str.ofString "fewest", Str.ofString "most"] [Str.ofString "steps", Str.ofString "drawn", Str.ofString "more", Str.ofString "wide"] ?fjm ?fjj ?fjo; (case fjm => (repeat' (first | exact List.forall_mem_nil _ | (refine List.forall_mem_cons.mpr ⟨by with_unfolding_all rfl, ?_⟩)))); (case fjj => decide); (case fjo => (intro y hy hz; simp only [List.forall_mem_cons, List.not_mem_nil, false_implies, implies_true, and_true] at hy; simp only [List.contains_cons, List.contains_nil, Bool.or_false, Bool.or_eq_false_iff] at hz; have hy2 := hy; simp only [← beq_eq_false_iff_ne] at hy2; have hz2 := hz; simp only [beq_eq_false_iff_ne] at hz2; simp [hy, hy2, hz, hz2, List.lookup_cons, lk, lkj])))
theorem part4f_c : part4f_in.1 part4fK.ys2 part4fK.LA part4fK.o4' part4fK.h3 part4fK.tk3 := part5_in.2 (fun hz2 tkz3 I i t h tk oi p1' p2' p3' x1 x2 x3 u' MP r => part5_s part5_c (hz2, tkz3, I, i, t, h, tk, oi, p1', p2', p3', x1, x2, x3, u', MP, r))
theorem part4_c : part4_in.1 part4K.P0 part4K.R0 part4K.P1 part4K.R1 part4K.n0 part4K.m0 part4K.n1 part4K.m1 part4K.p0 part4K.p1 part4K.p2 part4K.p3 part4K.q0 part4K.q1 part4K.q2 part4K.q3 part4K.t0 part4K.t1 part4K.t2 part4K.t3 part4K.t4 part4K.t5 part4K.t6 part4K.t7 part4K.t8 part4K.t9 part4K.ta part4K.tb part4K.tc part4K.td := part4f_in.2 (fun ys2 LA o4' h3 tk3 => part4f_s part4f_c (ys2, LA, o4', h3, tk3))
theorem part2b_c : part2_in.1.2 part2bK.I part2bK.h part2bK.tkq part2bK.ts part2bK.ss part2bK.nt part2bK.nz part2bK.C part2bK.oe part2bK.of part2bK.og part2bK.x5 part2bK.x6 part2bK.x7 part2bK.u := part4_in.2 (fun P0 R0 P1 R1 n0 m0 n1 m1 p0 p1 p2 p3 q0 q1 q2 q3 t0 t1 t2 t3 t4 t5 t6 t7 t8 t9 ta tb tc td => part4_s part4_c (P0, R0, P1, R1, n0, m0, n1, m1, p0, p1, p2, p3, q0, q1, q2, q3, t0, t1, t2, t3, t4, t5, t6, t7, t8, t9, ta, tb, tc, td))
theorem part2z_c : part2z_in.1 part2zK.WD part2zK.wvs part2zK.oW part2zK.TL part2zK.oT part2zK.SL part2zK.tk part2zK.X1 part2zK.x1vs part2zK.X2 part2zK.x2vs part2zK.TT part2zK.zC part2zK.base part2zK.wns part2zK.x1s part2zK.x2s := part2_in.2 (fun I i h tkq oi ts ss nt nz C oe of og x5 x6 x7 u X xvs xs => part2a_s part2a_c (I, i, h, tkq, oi, ts, ss, nt, nz, C, oe, of, og, x5, x6, x7, u, X, xvs, xs)) (fun I h tkq ts ss nt nz C oe of og x5 x6 x7 u => part2b_s part2b_c (I, h, tkq, ts, ss, nt, nz, C, oe, of, og, x5, x6, x7, u))
theorem part1b_c : part1b_in.1 part1bK.ys part1bK.ds part1bK.DR part1bK.h2 part1bK.tk2 part1bK.mo part1bK.wd part1bK.tmo part1bK.twd := part2z_in.2 (fun WD wvs oW TL oT SL tk X1 x1vs X2 x2vs TT zC base wns x1s x2s => part2z_s part2z_c (WD, wvs, oW, TL, oT, SL, tk, X1, x1vs, X2, x2vs, TT, zC, base, wns, x1s, x2s))
theorem part1a_c : part1a_in.1 part1aK.o1 part1aK.o2 part1aK.o3 part1aK.o4 part1aK.o5 part1aK.o6 part1aK.o7 part1aK.o8 part1aK.o9 part1aK.o10 := part1b_in.2 (fun ys ds DR h2 tk2 mo wd tmo twd => part1b_s part1b_c (ys, ds, DR, h2, tk2, mo, wd, tmo, twd))
theorem part1_c : part1_in.1 part1K.w part1K.s₀ part1K.s₁ part1K.mg part1K.mb part1K.fa part1K.o part1K.pm part1K.doc part1K.wC part1K.w4 part1K.ns part1K.sl part1K.vs part1K.h₁ part1K.tk₁ part1K.cells part1K.qk part1K.ek := part1a_in.2 (fun o1 o2 o3 o4 o5 o6 o7 o8 o9 o10 => part1a_s part1a_c (o1, o2, o3, o4, o5, o6, o7, o8, o9, o10))
theorem whole : PySem.Challenge.rw_pg0216_01.Holds := part1_in.2 (fun w s₀ s₁ mg mb fa o pm doc wC w4 ns sl vs h₁ tk₁ cells qk ek => part1_s part1_c (w, s₀, s₁, mg, mb, fa, o, pm, doc, wC, w4, ns, sl, vs, h₁, tk₁, cells, qk, ek))
end Mine
end
theorem PySem.Challenge.cw_pg0216_01_holds : PySem.Challenge.rw_pg0216_01.Holds :=
  Mine.whole
