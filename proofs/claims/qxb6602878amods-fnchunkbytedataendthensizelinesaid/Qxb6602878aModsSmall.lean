/- Seat b6602878aM: zzInSizeLinePB1, zzBytes_FnChunkByteDataEndThenSizeLine, and cells that equal themselves. -/
import Derived.Test.Qxb6602878aModsSame
import Derived.Test.Qxb6602878aModsSelf
import Derived.Test.Qxb6602878aModsByte
namespace Go.Proofs.Qxb6602878aMods
open Go.RowKit

set_option maxHeartbeats 400000 in
theorem inSize_3 (st : Int) (w : World) (h : st = 3 ∨ st = 4 ∨ st = 5 ∨ st = 6) : Calls Trym.prog 14 #[.int .i64 st] w fun r w' => r = .returned (.bool true) ∧ w' = w := by
  rcases h with rfl | rfl | rfl | rfl
  all_goals
    go_enter Trym.func14, Trym.ntmps14
    go_wp2
    go_ret
    exact ⟨rfl, rfl⟩

theorem self_int (t : TypeId) (k : IntKind) (x : Int) : SelfEq t (.int k x) := fun o p w => by
  simp [eqGuard, binOp, go_sem]
theorem self_bool (x : Bool) : SelfEq 4 (.bool x) := fun o p w => by
  cases x <;> kernel_rfl
theorem self_22 (F : Nat → Int) : SelfEq 22 (.agg (arr 64 (by8 F))) := fun o p w => by
  have hg : Trym.prog.eqGuardType Trym.prog.depth 22 = false := by kernel_rfl
  have h := run_eql_same 22 5 64 F w Trym.underlying22 Trym.underlying5 (fun w => by kernel_rfl)
  simp [eqGuard, hg, h]
theorem self_23 (F : Nat → Int) : SelfEq 23 (.agg (arr 9 (by8 F))) := fun o p w => by
  have hg : Trym.prog.eqGuardType Trym.prog.depth 23 = false := by kernel_rfl
  have h := run_eql_same 23 5 9 F w Trym.underlying23 Trym.underlying5 (fun w => by kernel_rfl)
  simp [eqGuard, hg, h]

/-- The kinds of the framing's cells. -/
structure TypV (v : Nat → Value) : Prop where
  b : ∀ j, j = 0 ∨ j = 1 ∨ j = 78 ∨ j = 79 ∨ j = 83 ∨ j = 85 ∨ j = 86 → ∃ x, v j = .bool x
  i : ∀ j, j = 2 ∨ j = 3 ∨ j = 77 ∨ j = 80 ∨ j = 82 ∨ j = 84 ∨ j = 89 → ∃ x, v j = .int .i64 x
  u : ∀ j, j = 81 ∨ j = 88 → ∃ x, v j = .int .u64 x
  f : ∃ F : Nat → Int, ∀ j, j < 64 → v (4 + j) = .int .u8 (F j)
  l : ∃ F : Nat → Int, ∀ j, j < 9 → v (68 + j) = .int .u8 (F j)
  s : ∃ a l c, v 87 = .slice a l c
theorem TypV.one {v : Nat → Value} (h : TypV v) : One 90 v := fun j hj => by
  have key : (∃ x, v j = .bool x) ∨ (∃ k x, v j = .int k x) ∨ ∃ a l c, v j = .slice a l c := by
    by_cases h1 : 4 ≤ j ∧ j < 68
    · obtain ⟨F, hF⟩ := h.f
      have := hF (j - 4) (by omega)
      rw [show 4 + (j - 4) = j by omega] at this
      exact .inr (.inl ⟨_, _, this⟩)
    · by_cases h2 : 68 ≤ j ∧ j < 77
      · obtain ⟨F, hF⟩ := h.l
        have := hF (j - 68) (by omega)
        rw [show 68 + (j - 68) = j by omega] at this
        exact .inr (.inl ⟨_, _, this⟩)
      · by_cases h3 : j = 0 ∨ j = 1 ∨ j = 78 ∨ j = 79 ∨ j = 83 ∨ j = 85 ∨ j = 86
        · exact .inl (h.b j h3)
        · by_cases h4 : j = 81 ∨ j = 88
          · obtain ⟨x, hx⟩ := h.u j h4
            exact .inr (.inl ⟨_, x, hx⟩)
          · by_cases h5 : j = 87
            · subst h5; exact .inr (.inr h.s)
            · obtain ⟨x, hx⟩ := h.i j (by omega)
              exact .inr (.inl ⟨_, x, hx⟩)
  rcases key with ⟨x, hx⟩ | ⟨k, x, hx⟩ | ⟨a, l, c, hx⟩
  · rw [hx]; exact one_bool x
  · rw [hx]; exact one_int k x
  · rw [hx]; exact one_slice a l c
theorem TypV.selfs {v : Nat → Value} (h : TypV v) : Selfs v := by
  have hb : ∀ j, j = 0 ∨ j = 1 ∨ j = 78 ∨ j = 79 ∨ j = 83 ∨ j = 85 ∨ j = 86 → SelfEq 4 (v j) := fun j hj => by
    obtain ⟨x, hx⟩ := h.b j hj
    rw [hx]; exact self_bool x
  have hi : ∀ j, j = 2 ∨ j = 3 ∨ j = 77 ∨ j = 80 ∨ j = 82 ∨ j = 84 ∨ j = 89 → SelfEq 3 (v j) := fun j hj => by
    obtain ⟨x, hx⟩ := h.i j hj
    rw [hx]; exact self_int 3 _ x
  have hu : ∀ j, j = 81 ∨ j = 88 → SelfEq 31 (v j) := fun j hj => by
    obtain ⟨x, hx⟩ := h.u j hj
    rw [hx]; exact self_int 31 _ x
  refine { s0 := hb 0 (by omega), s1 := hb 1 (by omega), s78 := hb 78 (by omega), s79 := hb 79 (by omega), s83 := hb 83 (by omega), s85 := hb 85 (by omega), s86 := hb 86 (by omega), s2 := hi 2 (by omega), s3 := hi 3 (by omega), s77 := hi 77 (by omega), s80 := hi 80 (by omega), s82 := hi 82 (by omega), s84 := hi 84 (by omega), s89 := hi 89 (by omega), s81 := hu 81 (by omega), s88 := hu 88 (by omega), s4 := ?_, s68 := ?_ }
  · obtain ⟨F, hF⟩ := h.f
    rw [arr_congr 64 (sh 4 v) (by8 F) (fun j hj => hF j hj)]
    exact self_22 F
  · obtain ⟨F, hF⟩ := h.l
    rw [arr_congr 9 (sh 68 v) (by8 F) (fun j hj => hF j hj)]
    exact self_23 F
theorem TypV.setH {v : Nat → Value} (h : TypV v) (a : Option Addr) (l c : Nat) : TypV (setV v 87 (.slice a l c)) := by
  have e : ∀ j, j ≠ 87 → setV v 87 (.slice a l c) j = v j := fun j hj => by unfold setV; rw [if_neg hj]
  exact ⟨fun j hj => by rw [e j (by omega)]; exact h.b j hj, fun j hj => by rw [e j (by omega)]; exact h.i j hj, fun j hj => by rw [e j (by omega)]; exact h.u j hj,
    by obtain ⟨F, hF⟩ := h.f; exact ⟨F, fun j hj => by rw [e _ (by omega)]; exact hF j hj⟩, by obtain ⟨F, hF⟩ := h.l; exact ⟨F, fun j hj => by rw [e _ (by omega)]; exact hF j hj⟩, ⟨a, l, c, by unfold setV; rw [if_pos rfl]⟩⟩
theorem TypV.fr {v : Nat → Value} (h : TypV v) (amb : Bool) (st left dig : Int) : TypV (fr v amb st left dig) := by
  have e : ∀ j, j ≠ 0 → j ≠ 2 → j ≠ 88 → j ≠ 89 → Qxb6602878aMods.fr v amb st left dig j = v j := fun j h0 h2 h8 h9 => by unfold Qxb6602878aMods.fr; rw [if_neg h0, if_neg h2, if_neg h8, if_neg h9]
  refine ⟨fun j hj => ?_, fun j hj => ?_, fun j hj => ?_, ?_, ?_, ?_⟩
  · by_cases h0 : j = 0
    · subst h0; exact ⟨amb, rfl⟩
    · rw [e j h0 (by omega) (by omega) (by omega)]; exact h.b j hj
  · by_cases h2 : j = 2
    · subst h2; exact ⟨st, rfl⟩
    · by_cases h9 : j = 89
      · subst h9; exact ⟨dig, rfl⟩
      · rw [e j (by omega) h2 (by omega) h9]; exact h.i j hj
  · by_cases h8 : j = 88
    · subst h8; exact ⟨left, rfl⟩
    · rw [e j (by omega) (by omega) h8 (by omega)]; exact h.u j hj
  · obtain ⟨F, hF⟩ := h.f; exact ⟨F, fun j hj => by rw [e _ (by omega) (by omega) (by omega) (by omega)]; exact hF j hj⟩
  · obtain ⟨F, hF⟩ := h.l; exact ⟨F, fun j hj => by rw [e _ (by omega) (by omega) (by omega) (by omega)]; exact hF j hj⟩
  · rw [e 87 (by omega) (by omega) (by omega) (by omega)]; exact h.s
end Go.Proofs.Qxb6602878aMods
