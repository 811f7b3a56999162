/- Seat b6602816aM: the walks, third part: zzBitAt, zzWindow. -/
import Derived.Test.Qxb6602816aModsWalks2
namespace Go.Proofs.Qxb6602816aMods
open Go.RowKit

theorem ret_int {k : IntKind} {a b : Int} (h : a = b) : Ending.returned (.int k a) = .returned (.int k b) := by rw [h]

theorem mask_i64 (n : Int) (wd M : Nat) (hw : wd ≤ 9) (hM : M = 2 ^ wd) : bits BinOp.and IntKind.i64 n ((M : Int) - 1) = n % (M : Int) := by
  have h1 : 1 ≤ 2 ^ wd := Nat.one_le_two_pow
  have h2 : 2 ^ wd ≤ 2 ^ 9 := Nat.pow_le_pow_right (by omega) hw
  have e : ((M : Int) - 1) = ((2 ^ wd - 1 : Nat) : Int) := by rw [hM]; omega
  have hb : (BitVec.ofInt 64 ((2 ^ wd - 1 : Nat) : Int)).toNat = 2 ^ wd - 1 := ofInt_u64 _ (by omega)
  have key : (BitVec.ofInt 64 n &&& BitVec.ofInt 64 ((2 ^ wd - 1 : Nat) : Int)).toNat = (n % ((2 ^ 64 : Nat) : Int)).toNat % 2 ^ wd := by
    rw [BitVec.toNat_and, BitVec.toNat_ofInt, hb, Nat.and_two_pow_sub_one_eq_mod]
  rw [e]
  show IntKind.i64.wrap ((BitVec.ofInt 64 n &&& BitVec.ofInt 64 ((2 ^ wd - 1 : Nat) : Int)).toNat : Nat) = n % (M : Int)
  rw [key, IntKind.wrap_i64, hM]
  clear key hb e h1 h2 hM
  rcases wd with _ | _ | _ | _ | _ | _ | _ | _ | _ | _ | wd
  all_goals first | omega | (simp only [Nat.reduceAdd, Nat.reducePow]; omega)

theorem or_i64 (v b : Nat) (hv : v < 1000000) (hb : b ≤ 1) : bits BinOp.or IntKind.i64 ((v : Int) * 2) (b : Int) = ((2 * v + b : Nat) : Int) := by
  have e : (v : Int) * 2 = ((v * 2 : Nat) : Int) := by omega
  have hj := nat_join 1 (v * 2) b (by omega) (by omega)
  rw [e]
  show IntKind.i64.wrap ((BitVec.ofInt 64 ((v * 2 : Nat) : Int) ||| BitVec.ofInt 64 (b : Int)).toNat : Int) = _
  rw [BitVec.toNat_or, ofInt_u64 _ (by omega), ofInt_u64 _ (by omega), hj, IntKind.wrap_i64]
  omega

theorem bit_i64 (x r : Nat) (hx : x ≤ 255) : bits BinOp.and IntKind.i64 (wrap64 ((x : Int) / 2 ^ r)) 1 = ((x / 2 ^ r % 2 : Nat) : Int) := by
  have h1 : x / 2 ^ r ≤ x := Nat.div_le_self _ _
  have e : wrap64 ((x : Int) / 2 ^ r) = ((x / 2 ^ r : Nat) : Int) := by
    rw [div_cast]
    generalize x / 2 ^ r = y at *
    unfold wrap64; omega
  have := mask_i64 ((x / 2 ^ r : Nat) : Int) 1 2 (by omega) rfl
  rw [e]
  simp only [Int.cast_ofNat_Int, show ((2 : Int) - 1) = 1 by decide] at this
  rw [this]; omega

set_option maxHeartbeats 400000 in
theorem bitAt_some (b lb c k : Nat) (zb : Nat → Nat) (w : World) (hlb : lb ≤ 65536) (hk : k ≤ 1000000) (hz : ∀ i, zb i ≤ 255) (hc : ∀ i, i < lb → w.cell? ⟨b, i, none⟩ = some (.int .u8 (zb i : Int))) :
    Calls Trym.prog 11 #[.slice (some ⟨b, 0, none⟩) lb c, .int .i64 (k : Int)] w fun e w' => e = .returned (.int .i64 ((byt zb lb (k / 8) / 2 ^ (k % 8) % 2 : Nat) : Int)) ∧ w' = w := by
  by_cases hlt : k / 8 < lb
  · have hc0 := hc _ hlt
    have hz0 := hz (k / 8)
    have hb : byt zb lb (k / 8) = zb (k / 8) := by simp [byt, hlt]
    rw [hb]
    generalize zb (k / 8) = x at *
    have i1 : (k : Int) / 8 < (lb : Int) := by omega
    have i2 : ((k : Int) / 8).toNat = k / 8 := by omega
    clear hc hz hb
    go_enter Trym.func11, Trym.ntmps11
    go_wp2
    go_ret
    exact ⟨ret_int (bit_i64 x _ hz0), rfl⟩
  · have hb : byt zb lb (k / 8) = 0 := by simp [byt, hlt]
    rw [hb]
    have i1 : ¬ (k : Int) / 8 < (lb : Int) := by omega
    clear hc hz hb
    go_enter Trym.func11, Trym.ntmps11
    go_wp2
    go_ret
    exact ⟨by simp, rfl⟩
set_option maxHeartbeats 400000 in
theorem bitAt_none (a : Option Addr) (c k : Nat) (w : World) (hk : k ≤ 1000000) :
    Calls Trym.prog 11 #[.slice a 0 c, .int .i64 (k : Int)] w fun e w' => e = .returned (.int .i64 0) ∧ w' = w := by
  have i1 : (0 : Int) ≤ (k : Int) / 8 := by omega
  go_enter Trym.func11, Trym.ntmps11
  go_wp2
  go_ret
  exact ⟨rfl, rfl⟩

/-- The slice holds the lb bytes zb 0, zb 1, .. -/
def Has (w : World) (a : Option Addr) (lb : Nat) (zb : Nat → Nat) : Prop := lb = 0 ∨ ∃ b, a = some ⟨b, 0, none⟩ ∧ ∀ i, i < lb → w.cell? ⟨b, i, none⟩ = some (.int .u8 (zb i : Int))

theorem bitAt_any (a : Option Addr) (lb c k : Nat) (zb : Nat → Nat) (w : World) (hlb : lb ≤ 65536) (hk : k ≤ 1000000) (hz : ∀ i, zb i ≤ 255) (hh : Has w a lb zb) :
    Calls Trym.prog 11 #[.slice a lb c, .int .i64 (k : Int)] w fun e w' => e = .returned (.int .i64 ((byt zb lb (k / 8) / 2 ^ (k % 8) % 2 : Nat) : Int)) ∧ w' = w := by
  rcases hh with rfl | ⟨b, rfl, hc⟩
  · refine (bitAt_none a c k w hk).mono fun e w' ⟨he, hw⟩ => ⟨?_, hw⟩
    rw [he]; simp [byt]
  · exact bitAt_some b lb c k zb w hlb hk hz hc

set_option maxHeartbeats 1000000 in
theorem window_any (a : Option Addr) (lb c fr wd : Nat) (zb : Nat → Nat) (w : World) (hlb : lb ≤ 65536) (hk : fr ≤ 600000) (hw1 : 1 ≤ wd) (hw9 : wd ≤ 9) (hz : ∀ i, zb i ≤ 255) (hh : Has w a lb zb) :
    Calls Trym.prog 7 #[.slice a lb c, .int .i64 (fr : Int), .int .i64 (wd : Int)] w fun e w' => e = .returned (.int .i64 ((two zb lb (fr / 8) / 2 ^ (fr % 8) % 2 ^ wd : Nat) : Int)) ∧ w' = w := by
  have HZ := hide hz
  have HH := hide hh
  clear hz hh
  obtain ⟨X, hX⟩ : ∃ X, two zb lb (fr / 8) = X := ⟨_, rfl⟩
  have HX := hide hX
  rw [hX]
  clear hX
  go_enter Trym.func7, Trym.ntmps7
  go_wp2
  go_loop [7, 8] (fun v j => ∃ m t : Nat, m + t = wd ∧ j = .int .i64 ((m : Int) - 1) ∧ v = .int .i64 ((X / 2 ^ (fr % 8 + m) % 2 ^ t : Nat) : Int)) (fun _ j => (intOf j + 1).toNat)
  case atStart => exact ⟨wd, 0, rfl, rfl, by simp [Nat.mod_one]⟩
  case round =>
    obtain ⟨m, t, hmt, rfl, rfl⟩ := hrel
    have HMT := hide hmt
    have hm9 : m ≤ 9 := by omega
    have ht9 : t ≤ 9 := by omega
    clear hmt
    by_cases hm : m = 0
    · subst hm
      go_wp2
      go_ret
      refine ⟨ret_int ?_, rfl⟩
      have := unhide HMT
      rw [show t = wd by omega]
    · obtain ⟨m', rfl⟩ : ∃ m', m = m' + 1 := ⟨m - 1, by omega⟩
      have hv : X / 2 ^ (fr % 8 + (m' + 1)) % 2 ^ t < 2 ^ t := Nat.mod_lt _ (Nat.two_pow_pos _)
      have hv2 : 2 ^ t ≤ 2 ^ 9 := Nat.pow_le_pow_right (by omega) ht9
      have hft := foot X (fr % 8 + m') t
      rw [show fr % 8 + m' + 1 = fr % 8 + (m' + 1) by omega] at hft
      have hbit : X / 2 ^ (fr % 8 + m') % 2 = byt zb lb ((fr + m') / 8) / 2 ^ ((fr + m') % 8) % 2 := by
        have := bit_two zb lb (fr / 8) (fr % 8 + m') (by omega) (unhide HZ)
        rw [unhide HX, show 8 * (fr / 8) + (fr % 8 + m') = fr + m' by omega] at this
        exact this
      generalize X / 2 ^ (fr % 8 + (m' + 1)) % 2 ^ t = v at *
      rw [hbit] at hft
      have HFT := hide hft
      have j1 : (0 : Int) ≤ ((m' + 1 : Nat) : Int) - 1 := by omega
      have j2 : ((m' + 1 : Nat) : Int) - 1 = (m' : Int) := by omega
      have hb1 : byt zb lb ((fr + m') / 8) / 2 ^ ((fr + m') % 8) % 2 ≤ 1 := by omega
      have hbit2 := bitAt_any a lb c (fr + m') zb w hlb (by omega) (unhide HZ) (unhide HH)
      rw [Int.natCast_add] at hbit2
      have HBT := hide hbit2
      clear hft hbit hbit2 hm
      generalize byt zb lb ((fr + m') / 8) / 2 ^ ((fr + m') % 8) % 2 = bt at *
      have hv3 : v < 512 := by omega
      have HOR := hide (or_i64 v bt (by omega) hb1)
      clear hv hv2
      go_wp2_with fail
      refine (unhide HBT).mono ?_
      rintro e w' ⟨rfl, hw⟩
      obtain rfl := hw.symm
      go_wp2
      go_round
      case rel => exact ⟨m', t + 1, by have := unhide HMT; omega, by go_num, by rw [unhide HOR, unhide HFT]⟩
      case measure => simp [intOf]
end Go.Proofs.Qxb6602816aMods
