/- Seat b6602878aM: zzHexValuePB1. -/
import Derived.Test.Qxb6602878aModsChunk
namespace Go.Proofs.Qxb6602878aMods
open Go.RowKit

/-- The byte of hex digit j. -/
def dg (j : Nat) : Int := if j < 10 then 48 + j else 87 + j
/-- b, an upper-case letter turned into a lower-case one. -/
def low (b : Int) : Int := if 65 ≤ b ∧ b ≤ 90 then b + 32 else b
theorem hexv_is {b : Int} {k : Nat} (hk : k < 16) (h : dg k = low b) : hexv b = some (k : Int) := by
  unfold dg low at h
  unfold hexv
  split at h <;> split at h
  · omega
  · rw [if_pos (by omega)]; congr 1; omega
  · rw [if_neg (by omega), if_neg (by omega), if_pos (by omega)]; congr 1; omega
  · rw [if_neg (by omega), if_pos (by omega)]; congr 1; omega
theorem hexv_no {b : Int} (h : ∀ j, j < 16 → dg j ≠ low b) : hexv b = none := by
  unfold hexv
  have key : ∀ (j : Int), 0 ≤ j → j < 16 → (if j < 10 then 48 + j else 87 + j) ≠ low b := fun j h0 h1 => by
    have := h j.toNat (by omega)
    unfold dg at this
    split
    · rw [if_pos (by omega)] at this; intro e; apply this; omega
    · rw [if_neg (by omega)] at this; intro e; apply this; omega
  split
  · exfalso
    have := key (b - 48) (by omega) (by omega)
    rw [if_pos (by omega)] at this
    unfold low at this
    rw [if_neg (by omega)] at this
    omega
  · split
    · exfalso
      have := key (b - 87) (by omega) (by omega)
      rw [if_neg (by omega)] at this
      unfold low at this
      rw [if_neg (by omega)] at this
      omega
    · split
      · exfalso
        have := key (b - 55) (by omega) (by omega)
        rw [if_neg (by omega)] at this
        unfold low at this
        rw [if_pos (by omega)] at this
        omega
      · rfl
/-- What the two say of a byte. -/
def HexSaid (b : Int) (r : Ending) : Prop := r = .returned (.tuple #[.int .u64 ((hexv b).getD 0), .bool (hexv b).isSome])
theorem hexSaid_some {b x : Int} (h : hexv b = some x) : HexSaid b (.returned (.tuple #[.int .u64 x, .bool true])) := by unfold HexSaid; rw [h]; rfl
theorem hexSaid_none {b : Int} (h : hexv b = none) : HexSaid b (.returned (.tuple #[.int .u64 0, .bool false])) := by unfold HexSaid; rw [h]; rfl

theorem hexIx (k : Nat) (hk : k < 16) (w : World) : (Instr.index 9 (.string ⟨#[48, 49, 50, 51, 52, 53, 54, 55, 56, 57, 97, 98, 99, 100, 101, 102]⟩) (.int .i64 (k : Int))).run Trym.prog w = .ok (.int .u8 (dg k)) w := by
  have h : k = 0 ∨ k = 1 ∨ k = 2 ∨ k = 3 ∨ k = 4 ∨ k = 5 ∨ k = 6 ∨ k = 7 ∨ k = 8 ∨ k = 9 ∨ k = 10 ∨ k = 11 ∨ k = 12 ∨ k = 13 ∨ k = 14 ∨ k = 15 := by omega
  rcases h with rfl | rfl | rfl | rfl | rfl | rfl | rfl | rfl | rfl | rfl | rfl | rfl | rfl | rfl | rfl | rfl <;> rfl

set_option maxHeartbeats 4000000 in
theorem hexValue_low (b c : Int) (w : World) (h0 : 0 ≤ b) (h1 : b < 256) (hc : low b = c) (hup : (65 ≤ b ∧ b ≤ 90 ∧ c = b + 32) ∨ (¬ (65 ≤ b ∧ b ≤ 90) ∧ c = b)) :
    Calls Trym.prog 28 #[.int .u8 b] w fun r w' => HexSaid b r ∧ w' = w := by
  have HC := hide hc
  clear hc
  rcases hup with ⟨u1, u2, rfl⟩ | ⟨u, rfl⟩
  · skip
    go_enter Trym.func28, Trym.ntmps28
    go_wp2
    go_loop [5] (fun i => ∃ k : Nat, k ≤ 16 ∧ i = .int .i64 k ∧ ∀ j, j < k → dg j ≠ b + 32) (fun i => 16 - (intOf i).toNat)
    case atStart => exact ⟨0, by omega, rfl, fun j hj => by omega⟩
    case round =>
      obtain ⟨k, hk, rfl, hno⟩ := hrel
      have HNO := hide hno
      clear hno
      by_cases hlt : k < 16
      · have hx := hexIx k hlt w
        by_cases hm : dg k = b + 32
        · rw [hm] at hx
          have HM := hide hm
          clear hm
          go_wp2
          go_ret2
          exact ⟨hexSaid_some (hexv_is hlt ((unhide HM).trans (unhide HC).symm)), rfl⟩
        · have dm : decide (dg k = b + 32) = false := decide_eq_false hm
          have em : (dg k == b + 32) = false := beq_eq_false_iff_ne.2 hm
          have HM := hide hm
          clear hm
          go_wp2
          go_round
          case rel =>
            refine ⟨k + 1, by omega, by go_num, fun j hj => ?_⟩
            by_cases e : j = k
            · subst e; exact unhide HM
            · exact unhide HNO j (by omega)
          case measure => simp [intOf]; omega
      · obtain rfl : k = 16 := by omega
        go_wp2
        go_ret2
        exact ⟨hexSaid_none (hexv_no (fun j hj => by rw [unhide HC]; exact unhide HNO j hj)), rfl⟩
  · by_cases u1 : 65 ≤ c
    · have u2 : ¬ c ≤ 90 := fun h => u ⟨u1, h⟩
      have d2 : decide (c ≤ 90) = false := decide_eq_false u2
      clear u
      go_enter Trym.func28, Trym.ntmps28
      go_wp2
      go_loop [5] (fun i => ∃ k : Nat, k ≤ 16 ∧ i = .int .i64 k ∧ ∀ j, j < k → dg j ≠ c) (fun i => 16 - (intOf i).toNat)
      case atStart => exact ⟨0, by omega, rfl, fun j hj => by omega⟩
      case round =>
        obtain ⟨k, hk, rfl, hno⟩ := hrel
        have HNO := hide hno
        clear hno
        by_cases hlt : k < 16
        · have hx := hexIx k hlt w
          by_cases hm : dg k = c
          · rw [hm] at hx
            have HM := hide hm
            clear hm
            go_wp2
            go_ret2
            exact ⟨hexSaid_some (hexv_is hlt ((unhide HM).trans (unhide HC).symm)), rfl⟩
          · have dm : decide (dg k = c) = false := decide_eq_false hm
            have em : (dg k == c) = false := beq_eq_false_iff_ne.2 hm
            have HM := hide hm
            clear hm
            go_wp2
            go_round
            case rel =>
              refine ⟨k + 1, by omega, by go_num, fun j hj => ?_⟩
              by_cases e : j = k
              · subst e; exact unhide HM
              · exact unhide HNO j (by omega)
            case measure => simp [intOf]; omega
        · obtain rfl : k = 16 := by omega
          go_wp2
          go_ret2
          exact ⟨hexSaid_none (hexv_no (fun j hj => by rw [unhide HC]; exact unhide HNO j hj)), rfl⟩
    · have d1 : decide (65 ≤ c) = false := decide_eq_false u1
      clear u
      go_enter Trym.func28, Trym.ntmps28
      go_wp2
      go_loop [5] (fun i => ∃ k : Nat, k ≤ 16 ∧ i = .int .i64 k ∧ ∀ j, j < k → dg j ≠ c) (fun i => 16 - (intOf i).toNat)
      case atStart => exact ⟨0, by omega, rfl, fun j hj => by omega⟩
      case round =>
        obtain ⟨k, hk, rfl, hno⟩ := hrel
        have HNO := hide hno
        clear hno
        by_cases hlt : k < 16
        · have hx := hexIx k hlt w
          by_cases hm : dg k = c
          · rw [hm] at hx
            have HM := hide hm
            clear hm
            go_wp2
            go_ret2
            exact ⟨hexSaid_some (hexv_is hlt ((unhide HM).trans (unhide HC).symm)), rfl⟩
          · have dm : decide (dg k = c) = false := decide_eq_false hm
            have em : (dg k == c) = false := beq_eq_false_iff_ne.2 hm
            have HM := hide hm
            clear hm
            go_wp2
            go_round
            case rel =>
              refine ⟨k + 1, by omega, by go_num, fun j hj => ?_⟩
              by_cases e : j = k
              · subst e; exact unhide HM
              · exact unhide HNO j (by omega)
            case measure => simp [intOf]; omega
        · obtain rfl : k = 16 := by omega
          go_wp2
          go_ret2
          exact ⟨hexSaid_none (hexv_no (fun j hj => by rw [unhide HC]; exact unhide HNO j hj)), rfl⟩

theorem hexValue_any (b : Int) (w : World) (h0 : 0 ≤ b) (h1 : b < 256) : Calls Trym.prog 28 #[.int .u8 b] w fun r w' => HexSaid b r ∧ w' = w := by
  refine hexValue_low b (low b) w h0 h1 rfl ?_
  unfold low
  by_cases h : 65 ≤ b ∧ b ≤ 90
  · exact .inl ⟨h.1, h.2, by rw [if_pos h]⟩
  · exact .inr ⟨h, by rw [if_neg h]⟩
end Go.Proofs.Qxb6602878aMods
