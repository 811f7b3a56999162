/- The proof of 'Rows.FnRecordMatchesLastWinsModelSaid': the frame after the guide's template; the walk out of the texts beside it. -/
import Derived.Test.Qxb6601051aModsRows
import Derived.WalkKit
import Derived.ProofKit
import Derived.OpenShut
import Derived.ShutString
import Derived.ChangeOld
import Derived.Below
import Derived.SliceStrings
import Derived.Deep.Slices
import Derived.Test.Qxb6601051aModsLaw
namespace Go.Proofs.Qxb6601051aMods.fnRecordMatchesLastWinsModel
open Go.ChangeShapes Go.WideShapes Go.ChangeAt Go.RowKit
set_option linter.unusedVariables false

theorem own : ownKnob Trym.prog.godebug = none := by kernel_rfl
theorem laidOut : laidOutB Trym.prog = true := by kernel_rfl

/-- A slice of strings that came in. -/
def IsStrs (w : World) (v : Value) (a : Option Addr) (l c : Nat) (e : Nat → ByteArray) : Prop := v = .slice a l c ∧ Has w a l c e ∧ l ≤ maxLen ∧ ∀ j, (e j).size ≤ maxLen
theorem open_strs {H : Type} {enc : TypeId × Value → H} {w : World} {base : Nat} {sp : Nat → Bool} {held : Bool} {fuel : Nat} {v : Value} {x : DataW H × List MemPlace} (h : DataW.trod enc Trym.prog w base sp held fuel 22 [v] = some x) :
    ∃ q : Option Addr × Nat × Nat × (Nat → ByteArray), IsStrs w v q.1 q.2.1 q.2.2.1 q.2.2.2 := by
  rcases open_strings Trym.underlying22 Trym.underlying9 (by kernel_rfl) h with ⟨hcs, _⟩ | ⟨y, l, c, ss, hcs, _, hl, hm, hz, _, hcell, hwz⟩
  · injection hcs with hcs
    exact ⟨⟨none, 0, 0, fun _ => ByteArray.empty⟩, hcs, .inl ⟨rfl, rfl, rfl⟩, Nat.zero_le _, fun j => by simp⟩
  · injection hcs with hcs
    refine ⟨⟨some y, l, c, fun i => ss.getD i ByteArray.empty⟩, hcs, .inr ⟨y, rfl, fun i hi => hcell i (by have hi' : i < l := hi; rw [hz]; split <;> omega)⟩, Nat.le_trans hl hm, fun j => ?_⟩
    show (ss.getD j ByteArray.empty).size ≤ maxLen
    rw [List.getD_eq_getElem?_getD]
    cases hj : ss[j]? with
    | none => simp
    | some s => exact hwz s (List.mem_of_getElem? hj)
theorem open_lists {H : Type} {enc : TypeId × Value → H} {w : World} {base : Nat} {sp : Nat → Bool} {held : Bool} {fuel : Nat} {v : Value} {x : DataW H × List MemPlace} (h : DataW.trod enc Trym.prog w base sp held fuel 23 [v] = some x) :
    ∃ (a : Option Addr) (m c : Nat) (la : Nat → Option Addr) (ln lc : Nat → Nat) (el : Nat → Nat → ByteArray), v = .slice a m c ∧ HasL w a m c la ln lc el ∧ m ≤ maxLen ∧ (∀ i, i < m → ln i ≤ maxLen) ∧ ∀ i j, (el i j).size ≤ maxLen := by
  rcases Go.Deep.open_slice1 Trym.underlying23 (by kernel_rfl) h with ⟨hcs, _⟩ | ⟨y, l, c, m, n, V, D, Pl, hcs, _, hl, hm, hmm, _, hV⟩
  · injection hcs with hcs
    exact ⟨none, 0, 0, fun _ => none, fun _ => 0, fun _ => 0, fun _ _ => ByteArray.empty, hcs, .inl ⟨rfl, rfl, rfl⟩, Nat.zero_le _, fun i hi => by omega, fun i j => by simp⟩
  · injection hcs with hcs
    have hlm : l ≤ m := by rw [hmm]; split <;> omega
    have each : ∀ i, ∃ q : Option Addr × Nat × Nat × (Nat → ByteArray), (i < l → IsStrs w (V i) q.1 q.2.1 q.2.2.1 q.2.2.2) ∧ ∀ j, (q.2.2.2 j).size ≤ maxLen := fun i => by
      by_cases hi : i < l
      · obtain ⟨q, hq⟩ := open_strs (hV i (by omega)).2
        exact ⟨q, fun _ => hq, hq.2.2.2⟩
      · exact ⟨⟨none, 0, 0, fun _ => ByteArray.empty⟩, fun h => absurd h hi, fun j => by simp⟩
    refine ⟨some y, l, c, fun i => (Classical.choose (each i)).1, fun i => (Classical.choose (each i)).2.1, fun i => (Classical.choose (each i)).2.2.1, fun i => (Classical.choose (each i)).2.2.2, hcs, .inr ⟨y, rfl, fun i hi => ?_⟩, Nat.le_trans hl hm, fun i hi => ?_, fun i j => (Classical.choose_spec (each i)).2 j⟩
    · have hq := (Classical.choose_spec (each i)).1 hi
      exact ⟨by rw [(hV i (by omega)).1, hq.1], hq.2.1⟩
    · exact ((Classical.choose_spec (each i)).1 hi).2.2.1

/-! ### THE ROW's STEP -/
set_option maxRecDepth 100000 in
theorem lifted (os : Os) (started : os.Started) (H : Type) (enc : TypeId × Value → H) :
    ReturnsInHanded {} Trym.checked os 3 .any (Rows.fnRecordMatchesLastWinsModelSpec.pre6 enc Trym.prog Trym.f3 Rows.fnRecordMatchesLastWinsModelRow.domain false) (Rows.fnRecordMatchesLastWinsModelSpec.post enc Trym.prog Trym.f3 false true false false) := by
  refine returnsInHanded_of_change (C := Trym.checked) own started (by kernel_rfl) Trym.func3
    (ChangeSpec.witness6 (enc := enc) (C := Trym.checked) false ⟨#[], #[.slice none 0 0, .slice none 0 0], []⟩ 8 (by kernel_rfl) (by kernel_rfl) (by kernel_rfl) (by kernel_rfl)) ?_
  intro W base args ds gs before hval0 hW hcnd _
  have hval : ∀ (j : Nat) t v, Trym.f3.params[j]? = some t → args[j]? = some v → Value.okWide Trym.prog W .any base t v := hval0
  have hW' := hW
  obtain ⟨p, q, hA0, hV, rfl, hfz, hnd⟩ := hW
  have hA : DataW.TrodAll enc Trym.prog W 0 (fun _ => true) true Trym.f3.params.toList args.toList ds p := hA0
  rw [Trym.params3] at hA hval
  obtain ⟨v0, vs0, d0, ds0, p0, q0, hargs, rfl, rfl, h0, r0⟩ := trodAll_cons hA
  obtain ⟨v1, vs1, d1, ds1, p1, q1, rfl, rfl, rfl, h1, r1⟩ := trodAll_cons r0
  obtain ⟨rfl, rfl, rfl⟩ := trodAll_nil r1
  obtain rfl : args = #[v0, v1] := by cases args; simp_all
  obtain ⟨rfl, rfl⟩ := trodVars_none hV
  have k0 := h0
  have lt0 : ∀ x ∈ p0, x.block < W.heap.size := by obtain ⟨m, hm⟩ := k0; exact DataW.trod_lt m _ _ _ hm
  have k1 := h1
  have lt1 : ∀ x ∈ p1, x.block < W.heap.size := by obtain ⟨m, hm⟩ := k1; exact DataW.trod_lt m _ _ _ hm
  obtain ⟨a0, len0, cap0, rfl⟩ := okWide_slice Trym.underlying22 (hval 0 22 v0 rfl rfl)
  obtain ⟨a1, len1, cap1, rfl⟩ := okWide_slice Trym.underlying23 (hval 1 23 v1 rfl rfl)
  obtain ⟨nm, n1, n2, n3⟩ : ∃ nm, Has W a0 len0 cap0 nm ∧ len0 ≤ maxLen ∧ ∀ j, (nm j).size ≤ maxLen := by
    obtain ⟨fuel, hf⟩ := h0
    obtain ⟨⟨a, l, c, e⟩, hv, b1, b2, b3⟩ := open_strs (v := .slice a0 len0 cap0) (by simpa [Value.cells] using hf)
    injection hv with e1 e2 e3
    dsimp only at e1 e2 e3
    subst e1 e2 e3
    exact ⟨e, b1, b2, b3⟩
  obtain ⟨la, ln, lc, el, m1, m2, m3, m4⟩ : ∃ la ln lc el, HasL W a1 len1 cap1 la ln lc el ∧ len1 ≤ maxLen ∧ (∀ i, i < len1 → ln i ≤ maxLen) ∧ ∀ i j, (el i j).size ≤ maxLen := by
    obtain ⟨fuel, hf⟩ := h1
    obtain ⟨a, m, c, la, ln, lc, el, hv, b1, b2, b3, b4⟩ := open_lists (v := .slice a1 len1 cap1) (by simpa [Value.cells] using hf)
    injection hv with e1 e2 e3
    subst e1 e2 e3
    exact ⟨la, ln, lc, el, b1, b2, b3, b4⟩
  clear hA0 hval0
  refine (law_any a0 len0 cap0 nm a1 len1 cap1 la ln lc el W n2 n3 n1 m2 m3 m4 m1).mono fun e W' ⟨he, bel⟩ => ?_
  subst he
  exact ⟨_, rfl, _, _, _, [], _, [], hW', trodAll_mk1 (shut_bool Trym.underlying4 _), (trodAll_cons_mk (Below.trod laidOut (by kernel_rfl) (of_decide_eq_true (by kernel_rfl)) k0 bel lt0) (trodAll_cons_mk (Below.trod laidOut (by kernel_rfl) (of_decide_eq_true (by kernel_rfl)) k1 bel lt1) trodAll_mk0)), rfl, bel.frame _, fun h => by cases h⟩

theorem over : Rows.fnRecordMatchesLastWinsModelRow.holds Trym.pinned (OpenSpec.ofChange Rows.fnRecordMatchesLastWinsModelSpec) :=
  OpenClaim.holds_of_wide 3 Trym.f3 rfl rfl rfl rfl rfl rfl rfl ⟨rfl, rfl, rfl, rfl, rfl⟩ rfl rfl rfl rfl rfl (by kernel_rfl) Trym.func3 (by kernel_rfl)
    (of_decide_eq_true (by kernel_rfl)) (by unfold Func.isWrapper; first | (rw [if_pos (by decide +kernel)]; kernel_rfl) | (rw [if_neg (by decide +kernel)]; exact ⟨rfl, rfl⟩))
    (fun os started H enc _ => lifted os started H enc)

theorem proved : Rows.FnRecordMatchesLastWinsModelSaid := over
#print axioms proved
end Go.Proofs.Qxb6601051aMods.fnRecordMatchesLastWinsModel
