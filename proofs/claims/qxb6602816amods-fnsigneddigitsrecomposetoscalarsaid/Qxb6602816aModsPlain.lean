/- Seat b6602816aM: the plain mathematics of signedDigits. No Go in sight but the model's words for fixed-width integers. -/
import Derived.WalkKit
namespace Go.Proofs.Qxb6602816aMods

/-- The byte at place i; behind the end: 0. -/
def byt (zb : Nat → Nat) (lb : Nat) (i : Nat) : Nat := if i < lb then zb i else 0
/-- The sixteen bits from byte q on. -/
def two (zb : Nat → Nat) (lb q : Nat) : Nat := byt zb lb q + 256 * byt zb lb (q + 1)
/-- The k-th window of wd bits. -/
def win (zb : Nat → Nat) (lb wd k : Nat) : Nat := two zb lb (k * wd / 8) / 2 ^ (k * wd % 8) % 2 ^ wd
/-- The carry into digit k. -/
def car (e : Nat → Nat) (half : Nat) : Nat → Nat
  | 0 => 0
  | k + 1 => if half ≤ e k + car e half k then 1 else 0

theorem car_le (e : Nat → Nat) (half k : Nat) : car e half k ≤ 1 := by
  cases k with
  | zero => simp [car]
  | succ k => unfold car; split <;> omega

theorem win_lt (zb : Nat → Nat) (lb wd k : Nat) : win zb lb wd k < 2 ^ wd := Nat.mod_lt _ (Nat.two_pow_pos _)

theorem byt_lt (zb : Nat → Nat) (lb i : Nat) (h : ∀ i, zb i ≤ 255) : byt zb lb i ≤ 255 := by
  unfold byt; split
  · exact h i
  · omega

/-- The digits behind k rounds of the second loop. -/
def dig (e : Nat → Nat) (half k j : Nat) : Int :=
  if j < k then (e j : Int) + car e half j - 2 * half * car e half (j + 1) else if j = k then (e j : Int) + car e half j else e j

/-! ### the words of the model -/
theorem mask_u16 (X M wd : Nat) (hX : X < 65536) (hw : wd ≤ 9) (hM : M = 2 ^ wd) : IntKind.i16.wrap (bits BinOp.and IntKind.u16 (X : Int) ((M : Int) - 1)) = ((X % 2 ^ wd : Nat) : Int) := by
  have h1 : 1 ≤ 2 ^ wd := Nat.one_le_two_pow
  have h2 : 2 ^ wd ≤ 2 ^ 9 := Nat.pow_le_pow_right (by omega) hw
  have e : ((M : Int) - 1) = ((2 ^ wd - 1 : Nat) : Int) := by rw [hM]; omega
  rw [e, u16_and_nat X (2 ^ wd - 1) hX (by omega), Nat.and_two_pow_sub_one_eq_mod]
  have h3 : X % 2 ^ wd < 2 ^ wd := Nat.mod_lt _ (by omega)
  generalize X % 2 ^ wd = Y at *
  have h4 : Y < 512 := by omega
  simp only [IntKind.wrap, IntKind.bits, IntKind.signed]
  simp
  omega

theorem or_u16 (x y : Nat) (hx : x ≤ 255) (hy : y ≤ 255) : bits BinOp.or IntKind.u16 (x : Int) ((y : Int) * 256) = ((x + 256 * y : Nat) : Int) := by
  have e : (y : Int) * 256 = ((y * 256 : Nat) : Int) := by omega
  rw [e, u16_or_nat x (y * 256) (by omega) (by omega)]
  have := nat_join 8 (y * 256) x (by omega) (by omega)
  rw [Nat.or_comm, this]
  omega

theorem div_cast (X r : Nat) : (X : Int) / 2 ^ r = ((X / 2 ^ r : Nat) : Int) := by
  rw [Int.natCast_ediv]; simp

theorem word2 (zb : Nat → Nat) (lb wd k full : Nat) (hz : ∀ i, zb i ≤ 255) (hw : wd ≤ 9) (hM : full = 2 ^ wd) (h1 : k * wd / 8 + 1 < lb) :
    IntKind.i16.wrap (bits BinOp.and IntKind.u16 (bits BinOp.or IntKind.u16 (zb (k * wd / 8) : Int) ((zb (k * wd / 8 + 1) : Int) * 256) / 2 ^ (k * wd % 8)) ((full : Int) - 1)) = (win zb lb wd k : Int) := by
  rw [or_u16 _ _ (hz _) (hz _), div_cast, mask_u16 _ full wd _ hw hM]
  · simp [win, two, byt, h1, Nat.lt_of_succ_lt h1]
  · have := hz (k * wd / 8); have := hz (k * wd / 8 + 1)
    exact Nat.lt_of_le_of_lt (Nat.div_le_self _ _) (by omega)

theorem word1 (zb : Nat → Nat) (lb wd k full : Nat) (hz : ∀ i, zb i ≤ 255) (hw : wd ≤ 9) (hM : full = 2 ^ wd) (h1 : k * wd / 8 < lb) (h2 : ¬ k * wd / 8 + 1 < lb) :
    IntKind.i16.wrap (bits BinOp.and IntKind.u16 ((zb (k * wd / 8) : Int) / 2 ^ (k * wd % 8)) ((full : Int) - 1)) = (win zb lb wd k : Int) := by
  rw [div_cast, mask_u16 _ full wd _ hw hM]
  · simp [win, two, byt, h1, h2]
  · have := hz (k * wd / 8)
    exact Nat.lt_of_le_of_lt (Nat.div_le_self _ _) (by omega)

theorem word0 (zb : Nat → Nat) (lb wd k full : Nat) (hw : wd ≤ 9) (hM : full = 2 ^ wd) (h1 : ¬ k * wd / 8 < lb) :
    IntKind.i16.wrap (bits BinOp.and IntKind.u16 0 ((full : Int) - 1)) = (win zb lb wd k : Int) := by
  have h2 : ¬ k * wd / 8 + 1 < lb := by omega
  have := mask_u16 0 full wd (by omega) hw hM
  simp only [Int.natCast_zero] at this
  rw [this]
  simp [win, two, byt, h1, h2]

/-! ### one round of the second loop -/
theorem dig_start (e : Nat → Nat) (half j : Nat) : dig e half 0 j = e j := by
  unfold dig; split
  · omega
  · split
    · rename_i h; subst h; simp [car]
    · rfl

theorem dig_carry (e : Nat → Nat) (half k j : Nat) (h : half ≤ e k + car e half k) :
    (if j = k + 1 then (e (k + 1) : Int) + 1 else if j = k then ((e k : Int) + car e half k) - 2 * half else dig e half k j) = dig e half (k + 1) j := by
  have hc : car e half (k + 1) = 1 := by simp [car, h]
  unfold dig
  by_cases h1 : j = k + 1
  · subst h1; simp [hc]
  · by_cases h2 : j = k
    · subst h2; simp [hc]
    · by_cases h3 : j < k
      · rw [if_neg h1, if_neg h2, if_pos h3, if_pos (by omega)]
      · rw [if_neg h1, if_neg h2, if_neg h3, if_neg h2, if_neg (by omega), if_neg h1]

theorem dig_still (e : Nat → Nat) (half k j : Nat) (h : ¬ half ≤ e k + car e half k) : dig e half k j = dig e half (k + 1) j := by
  have hc : car e half (k + 1) = 0 := by simp [car, h]
  unfold dig
  by_cases h1 : j = k + 1
  · subst h1
    rw [if_neg (by omega), if_neg (by omega), if_neg (by omega), if_pos rfl, hc]; simp
  · by_cases h2 : j = k
    · subst h2; simp [hc]
    · by_cases h3 : j < k
      · rw [if_pos h3, if_pos (by omega)]
      · rw [if_neg h3, if_neg h2, if_neg (by omega), if_neg h1]

theorem dig_mid (e : Nat → Nat) (half m k : Nat) (hk : k < m) : dig e half m k = (e k : Int) + car e half k - 2 * half * car e half (k + 1) := by
  unfold dig; rw [if_pos hk]
theorem dig_mid_bd (e : Nat → Nat) (half m k : Nat) (hk : k < m) (he : e k < 2 * half) : -(half : Int) ≤ dig e half m k ∧ dig e half m k < half := by
  have h1 := car_le e half k
  rw [dig_mid e half m k hk]
  by_cases h : half ≤ e k + car e half k
  · have hc : car e half (k + 1) = 1 := by simp [car, h]
    rw [hc]; omega
  · have hc : car e half (k + 1) = 0 := by simp [car, h]
    rw [hc]; omega
theorem dig_last (e : Nat → Nat) (half m : Nat) : dig e half m m = (e m : Int) + car e half m := by
  unfold dig; rw [if_neg (by omega), if_pos rfl]
theorem dig_last_bd (e : Nat → Nat) (half m : Nat) (he : e m < half) : 0 ≤ dig e half m m ∧ dig e half m m ≤ half := by
  have h1 := car_le e half m
  rw [dig_last]; omega

/-! ### the law below 2^253 -/
theorem top_zero (zb : Nat → Nat) (lb q s : Nat) (hs : s ≤ 15) (h253 : 253 ≤ 8 * q + s) (hz : ∀ i, zb i ≤ 255) (h31 : byt zb lb 31 < 32) (h32 : ∀ i, 32 ≤ i → byt zb lb i = 0) : two zb lb q / 2 ^ s % 2 = 0 := by
  unfold two
  by_cases hq : 32 ≤ q
  · rw [h32 q hq, h32 (q + 1) (by omega)]; simp
  · by_cases hq1 : q = 31
    · subst hq1
      rw [h32 32 (by omega)]
      have : byt zb lb 31 / 2 ^ s = 0 := Nat.div_eq_of_lt (Nat.lt_of_lt_of_le h31 (show 2 ^ 5 ≤ 2 ^ s from Nat.pow_le_pow_right (by omega) (by omega)))
      simp [this]
    · have hq2 : q = 30 := by omega
      subst hq2
      have hb := byt_lt zb lb 30 hz
      obtain ⟨u, rfl⟩ : ∃ u, s = 8 + u := ⟨s - 8, by omega⟩
      rw [Nat.pow_add, ← Nat.div_div_eq_div_mul]
      have : (byt zb lb 30 + 256 * byt zb lb 31) / 2 ^ 8 = byt zb lb 31 := by omega
      rw [this]
      have : byt zb lb 31 / 2 ^ u = 0 := Nat.div_eq_of_lt (Nat.lt_of_lt_of_le h31 (show 2 ^ 5 ≤ 2 ^ u from Nat.pow_le_pow_right (by omega) (by omega)))
      simp [this]

theorem split_top (X r v : Nat) (h : X / 2 ^ (r + v) % 2 = 0) : X / 2 ^ r % 2 ^ (v + 1) < 2 ^ v := by
  have e : X / 2 ^ r / 2 ^ v % 2 = 0 := by rw [Nat.div_div_eq_div_mul, ← Nat.pow_add]; exact h
  have := Nat.mod_pow_succ (b := 2) (x := X / 2 ^ r) (k := v)
  rw [this, e]
  have := Nat.mod_lt (X / 2 ^ r) (Nat.two_pow_pos v)
  omega

theorem last_small (zb : Nat → Nat) (lb v n : Nat) (hv : v ≤ 8) (h254 : 254 ≤ n * (v + 1)) (hz : ∀ i, zb i ≤ 255) (h31 : byt zb lb 31 < 32) (h32 : ∀ i, 32 ≤ i → byt zb lb i = 0) : win zb lb (v + 1) (n - 1) < 2 ^ v := by
  have hn : 1 ≤ n := by
    rcases n with _ | n
    · simp at h254
    · omega
  obtain ⟨m, rfl⟩ : ∃ m, n = m + 1 := ⟨n - 1, by omega⟩
  have hm : (m + 1) * (v + 1) = m * (v + 1) + (v + 1) := by rw [Nat.add_mul]; omega
  unfold win
  simp only [Nat.add_sub_cancel]
  generalize m * (v + 1) = A at *
  exact split_top _ _ _ (top_zero zb lb (A / 8) (A % 8 + v) (by omega) (by omega) hz h31 h32)

theorem last_small' (zb : Nat → Nat) (lb wd n half : Nat) (hw1 : 1 ≤ wd) (hw9 : wd ≤ 9) (hH : half = 2 ^ (wd - 1)) (h254 : 254 ≤ wd * n) (hz : ∀ i, zb i ≤ 255) (h31 : byt zb lb 31 < 32) (h32 : ∀ i, 32 ≤ i → byt zb lb i = 0) : win zb lb wd (n - 1) < half := by
  obtain ⟨v, rfl⟩ : ∃ v, wd = v + 1 := ⟨wd - 1, by omega⟩
  rw [hH]
  exact last_small zb lb v n (by omega) (by rw [Nat.mul_comm]; exact h254) hz h31 h32

theorem win_lt' (zb : Nat → Nat) (lb wd k half : Nat) (hw1 : 1 ≤ wd) (hH : half = 2 ^ (wd - 1)) : win zb lb wd k < 2 * half := by
  have := win_lt zb lb wd k
  have e : 2 * half = 2 ^ wd := by rw [hH, ← Nat.pow_succ']; congr 1; omega
  omega

/-! ### the windows, bit by bit -/
theorem bit_two (zb : Nat → Nat) (lb q s : Nat) (hs : s ≤ 15) (hz : ∀ i, zb i ≤ 255) : two zb lb q / 2 ^ s % 2 = byt zb lb ((8 * q + s) / 8) / 2 ^ ((8 * q + s) % 8) % 2 := by
  have hb := byt_lt zb lb q hz
  by_cases h : s < 8
  · have e1 : (8 * q + s) / 8 = q := by omega
    have e2 : (8 * q + s) % 8 = s := by omega
    rw [e1, e2]
    unfold two
    generalize byt zb lb q = x at *
    generalize byt zb lb (q + 1) = y at *
    rcases s with _ | _ | _ | _ | _ | _ | _ | _ | s
    all_goals first | omega | (simp only [Nat.reduceAdd, Nat.reducePow]; omega)
  · have e1 : (8 * q + s) / 8 = q + 1 := by omega
    have e2 : (8 * q + s) % 8 = s - 8 := by omega
    rw [e1, e2]
    obtain ⟨u, rfl⟩ : ∃ u, s = 8 + u := ⟨s - 8, by omega⟩
    rw [Nat.add_sub_cancel_left, Nat.pow_add, ← Nat.div_div_eq_div_mul]
    unfold two
    have : (byt zb lb q + 256 * byt zb lb (q + 1)) / 2 ^ 8 = byt zb lb (q + 1) := by omega
    rw [this]

/-- one bit more at the foot -/
theorem foot (X m t : Nat) : X / 2 ^ m % 2 ^ (t + 1) = 2 * (X / 2 ^ (m + 1) % 2 ^ t) + X / 2 ^ m % 2 := by
  have e : X / 2 ^ (m + 1) = X / 2 ^ m / 2 := by rw [Nat.pow_succ, Nat.div_div_eq_div_mul]
  rw [e]
  generalize X / 2 ^ m = Y
  rw [Nat.pow_succ, Nat.mul_comm (2 ^ t) 2, Nat.mod_mul]
  omega
end Go.Proofs.Qxb6602816aMods
