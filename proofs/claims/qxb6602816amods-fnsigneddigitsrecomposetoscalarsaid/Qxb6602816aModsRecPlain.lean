/- Seat b6602816aM: the plain law of recomposition. -/
import Derived.Test.Qxb6602816aModsPlain
namespace Go.Proofs.Qxb6602816aMods

/-- The law's own carry ahead of round k of n. -/
def kar (e : Nat → Nat) (half n k : Nat) : Int := if k < n then -(car e half k : Int) else 0

theorem mod_small (x : Nat) (c F : Int) (h : (x : Int) < F) : ((x : Int) - F * c) % F = x := by
  rw [Int.sub_mul_emod_self_left]
  exact Int.emod_eq_of_lt (by omega) h
theorem div_small (x : Nat) (c F : Int) (h : (x : Int) < F) : ((x : Int) - F * c) / F = -c := by
  have hF : F ≠ 0 := by omega
  rw [show (x : Int) - F * c = (x : Int) + F * (-c) by rw [Int.mul_neg]; rfl, Int.add_mul_ediv_left _ _ hF, Int.ediv_eq_zero_of_lt (by omega) h]
  omega

/-- What round k adds up: the window, less what is carried on. -/
theorem sum_round (e : Nat → Nat) (half n k : Nat) (hk : k < n) : dig e half (n - 1) k + kar e half n k = (e k : Int) - ((2 * half : Nat) : Int) * (-(kar e half n (k + 1))) := by
  by_cases h : k + 1 < n
  · rw [dig_mid e half (n - 1) k (by omega)]
    unfold kar
    rw [if_pos hk, if_pos h]
    rw [Int.neg_neg, Int.natCast_mul]
    have : ((2 : Nat) : Int) = 2 := rfl
    rw [this]
    omega
  · have hk1 : k = n - 1 := by omega
    have hd := dig_last e half (n - 1)
    rw [← hk1] at hd
    rw [← hk1, hd]
    unfold kar
    rw [if_pos hk, if_neg h]
    omega

theorem kar_end (e : Nat → Nat) (half n : Nat) : kar e half n n = 0 := by unfold kar; rw [if_neg (by omega)]
theorem kar_start (e : Nat → Nat) (half n : Nat) : kar e half n 0 = 0 := by unfold kar; split <;> simp [car]
theorem kar_bd (e : Nat → Nat) (half n k : Nat) : -1 ≤ kar e half n k ∧ kar e half n k ≤ 0 := by
  have := car_le e half k
  unfold kar; split <;> omega
theorem dig_last_bd' (e : Nat → Nat) (half m : Nat) (he : e m < 2 * half) : 0 ≤ dig e half m m ∧ dig e half m m ≤ 2 * half := by
  have h1 := car_le e half m
  rw [dig_last]; omega
end Go.Proofs.Qxb6602816aMods
