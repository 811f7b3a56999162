/- Seat b6602816aM: the walk of FnSignedDigitsRecomposeToScalar. -/
import Derived.Test.Qxb6602816aModsWithin
import Derived.Test.Qxb6602816aModsWalks3
import Derived.Test.Qxb6602816aModsRecPlain
import Derived.Deep.QuietTactic
import Derived.BigQuiet
import Derived.WalkSmall
namespace Go.Proofs.Qxb6602816aMods
open Go.RowKit

theorem run_neq_same (a : Addr) (w : World) : (binOp .neq 27 (.pointer (some a)) (.pointer (some a))).run Trym.prog w = .ok (.bool false) w := by
  obtain ⟨i, hi, _⟩ := Option.map_eq_some_iff.1 Trym.size28
  have h : ∀ d : Nat, (Op.equalIn (d + 1) 27 (.pointer (some a)) (.pointer (some a))).run Trym.prog w = .ok true w := fun d => by
    simp [Op.equalIn, run_underlying Trym.underlying27, sizeOf, typeInfo, hi, sameAddr]
  simp only [binOp]
  simp [Op.equal, Op.maxDepth, h 9999]

set_option linter.unusedVariables false in
set_option maxRecDepth 1000000 in
set_option maxHeartbeats 2000000 in
theorem recomp_some (x : Addr) (lb c0 : Nat) (zb : Nat → Nat) (wd : Nat) (y : Addr) (n c2 : Nat) (z2 : List Int) (w : World) (hlb : lb ≤ 65536) (hzb : ∀ i, zb i ≤ 255) (hcell0 : ∀ i, i < lb → w.cell? (x.add i) = some (.int .u8 (zb i : Int)))
    (n1 : 1 ≤ n) (hn : n ≤ 65536) (hnc : n ≤ c2) (hw1 : 1 ≤ wd) (hw9 : wd ≤ 9) (hz2 : z2.length = c2) (hcell2 : ∀ i, i < z2.length → w.cell? (y.add i) = some (.int .i16 (z2.getD i 0))) :
    Calls Trym.prog 3 #[.slice (some x) lb c0, .int .u64 (wd : Int), .slice (some y) n c2] w fun e w' => e = .returned (.bool true) ∧ Below w.heap.size w w' := by
  obtain ⟨half, hH⟩ : ∃ half : Nat, half = 2 ^ (wd - 1) := ⟨_, rfl⟩
  obtain ⟨full, hF⟩ : ∃ full : Nat, full = 2 ^ wd := ⟨_, rfl⟩
  have hh1 : 1 ≤ half := by rw [hH]; exact Nat.one_le_two_pow
  have hh2 : half ≤ 256 := by rw [hH]; exact (show 2 ^ (wd - 1) ≤ 2 ^ 8 from Nat.pow_le_pow_right (by omega) (by omega))
  have hfh : full = 2 * half := by rw [hF, hH, ← Nat.pow_succ']; congr 1; omega
  have e3 : wrap64 ((2 : Int) ^ (wd - 1)) = (half : Int) := by
    have : ((2 : Int) ^ (wd - 1)) = (half : Int) := by rw [hH]; simp
    rw [this]; unfold wrap64; omega
  have e4 : wrap64 ((2 : Int) ^ wd) = (full : Int) := by
    have : ((2 : Int) ^ wd) = (full : Int) := by rw [hF]; simp
    rw [this]; unfold wrap64; omega
  have hf2 : full ≤ 512 := by omega
  have hf1 : 2 ≤ full := by omega
  have HH := hide hH
  have HF := hide hF
  have HFH := hide hfh
  have HC2 := hide hcell2
  have HZ2 := hide hz2
  have hneq1 := fun (wx : World) (a : Option Addr) (l c : Nat) => run_neq_slice_nil_any (P := Trym.prog) wx 22 5 a l c 0 0 Trym.underlying22
  have hneq2 := fun (wx : World) (a : Option Addr) (l c : Nat) => run_neq_slice_nil_any (P := Trym.prog) wx 24 28 a l c 0 0 Trym.underlying24
  have heql2 := fun (wx : World) (a : Option Addr) (l c : Nat) => Lib.run_eql_slice_nil (P := Trym.prog) wx 24 28 a l c 0 0 Trym.underlying24
  have hptr := fun (wx : World) (a : Addr) => run_neq_same a wx
  clear hH hF hfh hcell2 hz2
  have z5 : decide ((65536 : Int) < (n : Int)) = false := by simp; omega
  have z7 : (0 : Int) < (n : Int) := by omega
  have z8 : 0 < n := n1
  have z9 : decide ((wd : Int) < 1) = false := by simp; omega
  have z10 : decide ((9 : Int) < (wd : Int)) = false := by simp; omega
  have HC0 := hide hcell0
  have HZB := hide hzb
  have z6 : decide ((65536 : Int) < (lb : Int)) = false := by simp; omega
  clear hcell0 hzb
  go_enter Trym.func3, Trym.ntmps3
  go_wp2_with (first
    | (go_at_call 5; refine (bytes5_any _ _ _ _ _ _ _ _ (by unfold maxLen; omega) (by unfold maxLen; omega)).mono ?_; rintro e w' ⟨⟨r, rfl⟩, hw⟩; obtain rfl := hw.symm)
    | (at_make; refine wpList_make_ints _ rfl _ _ 22 rfl 5 .u8 1 Trym.underlying22 Trym.info5 .i64 .i64 lb rfl rfl (by omega) (by omega) ?_; intro w1 hm1; obtain ⟨w2, hcp1, hi2, hb2⟩ := run_copy_ints (P := Trym.prog) w1 22 3 5 .u8 Trym.underlying22 Trym.size5 w.heap.size lb lb x c0 _ (fun i => (zb i : Int)) hm1.ints (fun i hi => cell_later hm1.below ((unhide HC0) i hi)); have HS1 := hide (state1 hm1 hi2 hb2); clear hm1 hi2 hb2)
    | (at_make; refine wpList_make_ints _ rfl _ _ 24 rfl 28 .i16 2 Trym.underlying24 Trym.info28 .i64 .i64 n rfl rfl (by omega) (by omega) ?_; intro w3 hm3; obtain ⟨w4, hcp2, hi4, hb4⟩ := run_copy_ints (P := Trym.prog) w3 24 3 28 .i16 Trym.underlying24 Trym.size28 w2.heap.size n n y c2 _ (fun i => z2.getD i 0) hm3.ints (fun i hi => cell_later ((unhide HS1).below.trans (hm3.below.mono (unhide HS1).le)) ((unhide HC2) i (by rw [unhide HZ2]; omega))); have HS2 := hide (state2 (unhide HS1) hm3 hi4 hb4); clear hm3 hi4 hb4))
  · go_ret
    exact ⟨rfl, Below.refl _ _⟩
  refine (zz_some w.heap.size lb lb zb wd half w2.heap.size n _ _ hlb n1 hn hw1 hw9 (unhide HH) (unhide HS2).digs (unhide HZB) (unhide HS2).ne (unhide HS2).ints).mono ?_
  rintro e w5 ⟨rfl, hI, hB⟩
  have hmid := fun k => win_lt' zb lb wd k half hw1 (unhide HH)
  have BL : Hid (Below w.heap.size w w5) := (unhide HS2).below.trans (hB.below _ (unhide HS2).le)
  have HAS : Hid (Has w5 (some ⟨w.heap.size, 0, none⟩) lb zb) := .inr ⟨_, rfl, fun i hi => ((hB.ints (unhide HS2).ne (unhide HS2).ints) i hi).1⟩
  have HI := hide hI
  have HMID := hide hmid
  clear hI hB hmid HC2 HZ2 hcp2 HS2 HS1 HC0 hcp1
  go_wp2
  go_quiet (fail)
  obtain ⟨w6, hw6⟩ : ∃ w6, w5.drewN nq = w6 := ⟨_, rfl⟩
  rw [hw6]
  have BL6 : Hid (Below w.heap.size w w6) := by
    have b := unhide BL
    rw [← hw6]; exact ⟨b.os, b.tape, b.output, b.size, b.block⟩
  have HAS6 : Hid (Has w6 (some ⟨w.heap.size, 0, none⟩) lb zb) := by rw [← hw6]; exact unhide HAS
  have HI6 : Hid (Ints .i16 w6 w2.heap.size n (dig (win zb lb wd) half (n - 1))) := by rw [← hw6]; exact unhide HI
  clear hw6 BL HAS HI
  go_wp2
  simp only [e3, e4]
  go_loop [14, 15] (fun q i => ∃ k : Nat, k ≤ n ∧ i = .int .i64 k ∧ q = .int .i64 (kar (win zb lb wd) half n k)) (fun _ i => n - (intOf i).toNat)
  case atStart => exact ⟨0, Nat.zero_le _, rfl, by rw [kar_start]⟩
  case round =>
    obtain ⟨k, hk, rfl, rfl⟩ := hrel
    by_cases hlt : k < n
    · have hc := ((unhide HI6) k hlt).1
      have hsum := sum_round (win zb lb wd) half n k hlt
      have hkb := kar_bd (win zb lb wd) half n k
      have hkb2 := kar_bd (win zb lb wd) half n (k + 1)
      have hek := (unhide HMID) k
      have hwin : win zb lb wd k = two zb lb (k * wd / 8) / 2 ^ (k * wd % 8) % 2 ^ wd := rfl
      have hdb : -(512 : Int) ≤ dig (win zb lb wd) half (n - 1) k ∧ dig (win zb lb wd) half (n - 1) k ≤ 512 := by
        by_cases h : k < n - 1
        · have := dig_mid_bd _ half (n - 1) k h hek; omega
        · have := dig_last_bd' (win zb lb wd) half (n - 1) ((unhide HMID) (n - 1))
          rw [show k = n - 1 by omega]; omega
      have hmd : k < n - 1 → -(half : Int) ≤ dig (win zb lb wd) half (n - 1) k ∧ dig (win zb lb wd) half (n - 1) k < half := fun h => dig_mid_bd _ half (n - 1) k h hek
      generalize hd0 : dig (win zb lb wd) half (n - 1) k = d at *
      generalize hk0 : kar (win zb lb wd) half n k = kc at *
      have HW7 := hide (window_any (some ⟨w.heap.size, 0, none⟩) lb lb (k * wd) wd zb w6 hlb (Nat.le_trans (kw_le k wd (by omega) hw9) (by decide)) hw1 hw9 (unhide HZB) (unhide HAS6))
      simp only [← hwin] at HW7
      have HK1 : Hid (∃ kd, kar (win zb lb wd) half n (k + 1) = kd ∧ (d + kc) / 2 ^ wd = kd ∧ -1 ≤ kd ∧ kd ≤ 0) := by
        refine ⟨_, rfl, ?_, hkb2.1, hkb2.2⟩
        have h2w : ((2 : Int) ^ wd) = (full : Int) := by rw [unhide HF]; simp
        rw [hsum, h2w, ← unhide HFH, div_small _ _ _ (by rw [unhide HFH]; omega)]
        omega
      have hand : bits BinOp.and IntKind.i64 (d + kc) ((full : Int) - 1) = (win zb lb wd k : Int) := by
        rw [mask_i64 _ wd full hw9 (unhide HF), hsum, ← unhide HFH, mod_small _ _ _ (by rw [unhide HFH]; omega)]
      clear hsum hwin hkb2 hd0 hk0 HMID HI6
      generalize win zb lb wd k = ek at *
      obtain ⟨kd, hkd1, hkd2, hkd3, hkd4⟩ := unhide HK1
      have HKD := hide hkd1
      clear hkd1 HK1
      have p1 : (0 : Int) ≤ (k : Int) * wd := by rw [← Int.natCast_mul]; omega
      have hkw := kw_le k wd (by omega) hw9
      have p2 : (k : Int) * wd ≤ 589824 := by rw [← Int.natCast_mul]; omega
      have HW8 := unhide HW7
      simp only [Int.natCast_mul] at HW8
      have HW9 := hide HW8
      clear HW8 HW7 hkw
      obtain ⟨hdb1, hdb2⟩ := hdb
      obtain ⟨hkb1, hkb2⟩ := hkb
      by_cases hl1 : k < n - 1
      · obtain ⟨hd1, hd2⟩ := hmd hl1
        clear hmd
        have t1 : ¬ d < -(half : Int) := by omega
        have t2 : ¬ (half : Int) ≤ d := by omega
        have t3 : (k : Int) < (n : Int) - 1 := by omega
        go_wp2_with fail
        refine (unhide HW9).mono ?_
        rintro e w' ⟨rfl, hw⟩
        obtain rfl := hw.symm
        go_wp2
        go_round
        case rel => exact ⟨k + 1, by omega, by go_num, by rw [unhide HKD]⟩
        case measure => simp [intOf]; omega
      · clear hmd
        have t3 : ¬ (k : Int) < (n : Int) - 1 := by omega
        go_wp2_with fail
        refine (unhide HW9).mono ?_
        rintro e w' ⟨rfl, hw⟩
        obtain rfl := hw.symm
        go_wp2
        go_round
        case rel => exact ⟨k + 1, by omega, by go_num, by rw [unhide HKD]⟩
        case measure => simp [intOf]; omega
    · obtain rfl : k = n := by omega
      rw [kar_end]
      go_wp2
      go_ret
      exact ⟨rfl, unhide BL6⟩

set_option linter.unusedVariables false in
set_option maxRecDepth 1000000 in
set_option maxHeartbeats 2000000 in
theorem recomp_none  (wd : Nat) (y : Addr) (n c2 : Nat) (z2 : List Int) (w : World) 
    (n1 : 1 ≤ n) (hn : n ≤ 65536) (hnc : n ≤ c2) (hw1 : 1 ≤ wd) (hw9 : wd ≤ 9) (hz2 : z2.length = c2) (hcell2 : ∀ i, i < z2.length → w.cell? (y.add i) = some (.int .i16 (z2.getD i 0))) :
    Calls Trym.prog 3 #[.slice none 0 0, .int .u64 (wd : Int), .slice (some y) n c2] w fun e w' => e = .returned (.bool true) ∧ Below w.heap.size w w' := by
  obtain ⟨half, hH⟩ : ∃ half : Nat, half = 2 ^ (wd - 1) := ⟨_, rfl⟩
  obtain ⟨full, hF⟩ : ∃ full : Nat, full = 2 ^ wd := ⟨_, rfl⟩
  have hh1 : 1 ≤ half := by rw [hH]; exact Nat.one_le_two_pow
  have hh2 : half ≤ 256 := by rw [hH]; exact (show 2 ^ (wd - 1) ≤ 2 ^ 8 from Nat.pow_le_pow_right (by omega) (by omega))
  have hfh : full = 2 * half := by rw [hF, hH, ← Nat.pow_succ']; congr 1; omega
  have e3 : wrap64 ((2 : Int) ^ (wd - 1)) = (half : Int) := by
    have : ((2 : Int) ^ (wd - 1)) = (half : Int) := by rw [hH]; simp
    rw [this]; unfold wrap64; omega
  have e4 : wrap64 ((2 : Int) ^ wd) = (full : Int) := by
    have : ((2 : Int) ^ wd) = (full : Int) := by rw [hF]; simp
    rw [this]; unfold wrap64; omega
  have hf2 : full ≤ 512 := by omega
  have hf1 : 2 ≤ full := by omega
  have HH := hide hH
  have HF := hide hF
  have HFH := hide hfh
  have HC2 := hide hcell2
  have HZ2 := hide hz2
  have hneq1 := fun (wx : World) (a : Option Addr) (l c : Nat) => run_neq_slice_nil_any (P := Trym.prog) wx 22 5 a l c 0 0 Trym.underlying22
  have hneq2 := fun (wx : World) (a : Option Addr) (l c : Nat) => run_neq_slice_nil_any (P := Trym.prog) wx 24 28 a l c 0 0 Trym.underlying24
  have heql2 := fun (wx : World) (a : Option Addr) (l c : Nat) => Lib.run_eql_slice_nil (P := Trym.prog) wx 24 28 a l c 0 0 Trym.underlying24
  have hptr := fun (wx : World) (a : Addr) => run_neq_same a wx
  clear hH hF hfh hcell2 hz2
  have z5 : decide ((65536 : Int) < (n : Int)) = false := by simp; omega
  have z7 : (0 : Int) < (n : Int) := by omega
  have z8 : 0 < n := n1
  have z9 : decide ((wd : Int) < 1) = false := by simp; omega
  have z10 : decide ((9 : Int) < (wd : Int)) = false := by simp; omega
  have hzb : ∀ i : Nat, (fun _ : Nat => (0 : Nat)) i ≤ 255 := fun _ => Nat.zero_le _
  have HZB := hide hzb
  clear hzb
  go_enter Trym.func3, Trym.ntmps3
  go_wp2_with (first
    | (go_at_call 5; refine (bytes5_any _ _ _ _ _ _ _ _ (by unfold maxLen; omega) (by unfold maxLen; omega)).mono ?_; rintro e w' ⟨⟨r, rfl⟩, hw⟩; obtain rfl := hw.symm)
    | (at_make; refine wpList_make_ints _ rfl _ _ 24 rfl 28 .i16 2 Trym.underlying24 Trym.info28 .i64 .i64 n rfl rfl (by omega) (by omega) ?_; intro w3 hm3; obtain ⟨w4, hcp2, hi4, hb4⟩ := run_copy_ints (P := Trym.prog) w3 24 3 28 .i16 Trym.underlying24 Trym.size28 w.heap.size n n y c2 _ (fun i => z2.getD i 0) hm3.ints (fun i hi => cell_later hm3.below ((unhide HC2) i (by rw [unhide HZ2]; omega))); have HS2 := hide (state0 hm3 hi4 hb4); clear hm3 hi4 hb4))
  · go_ret
    exact ⟨rfl, Below.refl _ _⟩
  refine (zz_none none 0 (fun _ => 0) wd half w.heap.size n _ _ n1 hn hw1 hw9 (unhide HH) (unhide HS2).digs (unhide HZB)).mono ?_
  rintro e w5 ⟨rfl, hI, hB⟩
  have hmid := fun k => win_lt' (fun _ => 0) 0 wd k half hw1 (unhide HH)
  have BL : Hid (Below w.heap.size w w5) := (unhide HS2).below.trans (hB.below _ (Nat.le_refl _))
  have HAS : Hid (Has w5 none 0 (fun _ => 0)) := .inl rfl
  have HI := hide hI
  have HMID := hide hmid
  clear hI hB hmid HC2 HZ2 hcp2 HS2
  go_wp2
  go_quiet (fail)
  obtain ⟨w6, hw6⟩ : ∃ w6, w5.drewN nq = w6 := ⟨_, rfl⟩
  rw [hw6]
  have BL6 : Hid (Below w.heap.size w w6) := by
    have b := unhide BL
    rw [← hw6]; exact ⟨b.os, b.tape, b.output, b.size, b.block⟩
  have HAS6 : Hid (Has w6 none 0 (fun _ => 0)) := by rw [← hw6]; exact unhide HAS
  have HI6 : Hid (Ints .i16 w6 w.heap.size n (dig (win (fun _ => 0) 0 wd) half (n - 1))) := by rw [← hw6]; exact unhide HI
  clear hw6 BL HAS HI
  go_wp2
  simp only [e3, e4]
  go_loop [14, 15] (fun q i => ∃ k : Nat, k ≤ n ∧ i = .int .i64 k ∧ q = .int .i64 (kar (win (fun _ => 0) 0 wd) half n k)) (fun _ i => n - (intOf i).toNat)
  case atStart => exact ⟨0, Nat.zero_le _, rfl, by rw [kar_start]⟩
  case round =>
    obtain ⟨k, hk, rfl, rfl⟩ := hrel
    by_cases hlt : k < n
    · have hc := ((unhide HI6) k hlt).1
      have hsum := sum_round (win (fun _ => 0) 0 wd) half n k hlt
      have hkb := kar_bd (win (fun _ => 0) 0 wd) half n k
      have hkb2 := kar_bd (win (fun _ => 0) 0 wd) half n (k + 1)
      have hek := (unhide HMID) k
      have hwin : win (fun _ => 0) 0 wd k = two (fun _ => 0) 0 (k * wd / 8) / 2 ^ (k * wd % 8) % 2 ^ wd := rfl
      have hdb : -(512 : Int) ≤ dig (win (fun _ => 0) 0 wd) half (n - 1) k ∧ dig (win (fun _ => 0) 0 wd) half (n - 1) k ≤ 512 := by
        by_cases h : k < n - 1
        · have := dig_mid_bd _ half (n - 1) k h hek; omega
        · have := dig_last_bd' (win (fun _ => 0) 0 wd) half (n - 1) ((unhide HMID) (n - 1))
          rw [show k = n - 1 by omega]; omega
      have hmd : k < n - 1 → -(half : Int) ≤ dig (win (fun _ => 0) 0 wd) half (n - 1) k ∧ dig (win (fun _ => 0) 0 wd) half (n - 1) k < half := fun h => dig_mid_bd _ half (n - 1) k h hek
      generalize hd0 : dig (win (fun _ => 0) 0 wd) half (n - 1) k = d at *
      generalize hk0 : kar (win (fun _ => 0) 0 wd) half n k = kc at *
      have HW7 := hide (window_any none 0 0 (k * wd) wd (fun _ => 0) w6 (by omega) (Nat.le_trans (kw_le k wd (by omega) hw9) (by decide)) hw1 hw9 (unhide HZB) (unhide HAS6))
      simp only [← hwin] at HW7
      have HK1 : Hid (∃ kd, kar (win (fun _ => 0) 0 wd) half n (k + 1) = kd ∧ (d + kc) / 2 ^ wd = kd ∧ -1 ≤ kd ∧ kd ≤ 0) := by
        refine ⟨_, rfl, ?_, hkb2.1, hkb2.2⟩
        have h2w : ((2 : Int) ^ wd) = (full : Int) := by rw [unhide HF]; simp
        rw [hsum, h2w, ← unhide HFH, div_small _ _ _ (by rw [unhide HFH]; omega)]
        omega
      have hand : bits BinOp.and IntKind.i64 (d + kc) ((full : Int) - 1) = (win (fun _ => 0) 0 wd k : Int) := by
        rw [mask_i64 _ wd full hw9 (unhide HF), hsum, ← unhide HFH, mod_small _ _ _ (by rw [unhide HFH]; omega)]
      clear hsum hwin hkb2 hd0 hk0 HMID HI6
      generalize win (fun _ => 0) 0 wd k = ek at *
      obtain ⟨kd, hkd1, hkd2, hkd3, hkd4⟩ := unhide HK1
      have HKD := hide hkd1
      clear hkd1 HK1
      have p1 : (0 : Int) ≤ (k : Int) * wd := by rw [← Int.natCast_mul]; omega
      have hkw := kw_le k wd (by omega) hw9
      have p2 : (k : Int) * wd ≤ 589824 := by rw [← Int.natCast_mul]; omega
      have HW8 := unhide HW7
      simp only [Int.natCast_mul] at HW8
      have HW9 := hide HW8
      clear HW8 HW7 hkw
      obtain ⟨hdb1, hdb2⟩ := hdb
      obtain ⟨hkb1, hkb2⟩ := hkb
      by_cases hl1 : k < n - 1
      · obtain ⟨hd1, hd2⟩ := hmd hl1
        clear hmd
        have t1 : ¬ d < -(half : Int) := by omega
        have t2 : ¬ (half : Int) ≤ d := by omega
        have t3 : (k : Int) < (n : Int) - 1 := by omega
        go_wp2_with fail
        refine (unhide HW9).mono ?_
        rintro e w' ⟨rfl, hw⟩
        obtain rfl := hw.symm
        go_wp2
        go_round
        case rel => exact ⟨k + 1, by omega, by go_num, by rw [unhide HKD]⟩
        case measure => simp [intOf]; omega
      · clear hmd
        have t3 : ¬ (k : Int) < (n : Int) - 1 := by omega
        go_wp2_with fail
        refine (unhide HW9).mono ?_
        rintro e w' ⟨rfl, hw⟩
        obtain rfl := hw.symm
        go_wp2
        go_round
        case rel => exact ⟨k + 1, by omega, by go_num, by rw [unhide HKD]⟩
        case measure => simp [intOf]; omega
    · obtain rfl : k = n := by omega
      rw [kar_end]
      go_wp2
      go_ret
      exact ⟨rfl, unhide BL6⟩

set_option linter.unusedVariables false in
set_option maxRecDepth 1000000 in
set_option maxHeartbeats 1000000 in
theorem zero_nn  (wd : Nat) (w : World) (hw1 : 1 ≤ wd) (hw9 : wd ≤ 9)  :
    Calls Trym.prog 3 #[.slice none 0 0, .int .u64 (wd : Int), .slice none 0 0] w fun e w' => e = .returned (.bool true) ∧ Below w.heap.size w w' := by
  have hneq1 := fun (wx : World) (a : Option Addr) (l c : Nat) => run_neq_slice_nil_any (P := Trym.prog) wx 22 5 a l c 0 0 Trym.underlying22
  have hneq2 := fun (wx : World) (a : Option Addr) (l c : Nat) => run_neq_slice_nil_any (P := Trym.prog) wx 24 28 a l c 0 0 Trym.underlying24
  have heql2 := fun (wx : World) (a : Option Addr) (l c : Nat) => Lib.run_eql_slice_nil (P := Trym.prog) wx 24 28 a l c 0 0 Trym.underlying24
  have z9 : decide ((wd : Int) < 1) = false := by simp; omega
  have z10 : decide ((9 : Int) < (wd : Int)) = false := by simp; omega

  go_enter Trym.func3, Trym.ntmps3
  go_wp2_with (first
    | (go_at_call 5; refine (bytes5_any _ _ _ _ _ _ _ _ (by unfold maxLen; omega) (by unfold maxLen; omega)).mono ?_; rintro e w' ⟨⟨r, rfl⟩, hw⟩; obtain rfl := hw.symm)
    | (go_at_call 6; refine (zz_zero _ _ _ _ _ wd _ hw1 hw9).mono ?_; rintro e w' ⟨rfl, hw⟩; obtain rfl := hw.symm))
  · go_ret
    exact ⟨rfl, Below.refl _ _⟩
  go_quiet (fail)
  go_wp2
  go_loopw [14, 15] (fun q i wr => q = .int .i64 0 ∧ i = .int .i64 0 ∧ Below w.heap.size w wr) (fun _ _ _ => 0)
  case atStart => exact ⟨rfl, rfl, below_drewN (Below.refl _ _) _⟩
  case round =>
    obtain ⟨rfl, rfl, hbl⟩ := hrel
    have HBL := hide hbl
    clear hbl
    go_wp2
    go_ret
    exact ⟨rfl, unhide HBL⟩

set_option linter.unusedVariables false in
set_option maxRecDepth 1000000 in
set_option maxHeartbeats 1000000 in
theorem zero_ns (y : Addr) (c2 : Nat) (wd : Nat) (w : World) (hw1 : 1 ≤ wd) (hw9 : wd ≤ 9)  :
    Calls Trym.prog 3 #[.slice none 0 0, .int .u64 (wd : Int), .slice (some y) 0 c2] w fun e w' => e = .returned (.bool true) ∧ Below w.heap.size w w' := by
  have hneq1 := fun (wx : World) (a : Option Addr) (l c : Nat) => run_neq_slice_nil_any (P := Trym.prog) wx 22 5 a l c 0 0 Trym.underlying22
  have hneq2 := fun (wx : World) (a : Option Addr) (l c : Nat) => run_neq_slice_nil_any (P := Trym.prog) wx 24 28 a l c 0 0 Trym.underlying24
  have heql2 := fun (wx : World) (a : Option Addr) (l c : Nat) => Lib.run_eql_slice_nil (P := Trym.prog) wx 24 28 a l c 0 0 Trym.underlying24
  have z9 : decide ((wd : Int) < 1) = false := by simp; omega
  have z10 : decide ((9 : Int) < (wd : Int)) = false := by simp; omega

  go_enter Trym.func3, Trym.ntmps3
  go_wp2_with (first
    | (go_at_call 5; refine (bytes5_any _ _ _ _ _ _ _ _ (by unfold maxLen; omega) (by unfold maxLen; omega)).mono ?_; rintro e w' ⟨⟨r, rfl⟩, hw⟩; obtain rfl := hw.symm)
    | (go_at_call 6; refine (zz_zero _ _ _ _ _ wd _ hw1 hw9).mono ?_; rintro e w' ⟨rfl, hw⟩; obtain rfl := hw.symm)
    | (at_make; refine wpList_make_ints _ rfl _ _ 24 rfl 28 .i16 2 Trym.underlying24 Trym.info28 .i64 .i64 0 rfl rfl (by omega) (by omega) ?_; intro w3 hm3; obtain ⟨w4, hcp2, hi4, hb4⟩ := run_copy_ints (P := Trym.prog) w3 24 3 28 .i16 Trym.underlying24 Trym.size28 w.heap.size 0 0 y c2 _ (fun _ => 0) hm3.ints (fun i hi => by omega); have HS2 := hide (state0 hm3 hi4 hb4); clear hm3 hi4 hb4))
  · go_ret
    exact ⟨rfl, Below.refl _ _⟩
  go_quiet (fail)
  go_wp2
  go_loopw [14, 15] (fun q i wr => q = .int .i64 0 ∧ i = .int .i64 0 ∧ Below w.heap.size w wr) (fun _ _ _ => 0)
  case atStart => exact ⟨rfl, rfl, below_drewN (unhide HS2).below _⟩
  case round =>
    obtain ⟨rfl, rfl, hbl⟩ := hrel
    have HBL := hide hbl
    clear hbl
    go_wp2
    go_ret
    exact ⟨rfl, unhide HBL⟩

set_option linter.unusedVariables false in
set_option maxRecDepth 1000000 in
set_option maxHeartbeats 1000000 in
theorem zero_sn (x : Addr) (lb c0 : Nat) (zb : Nat → Nat) (wd : Nat) (w : World) (hw1 : 1 ≤ wd) (hw9 : wd ≤ 9) (hlb : lb ≤ 65536) (hcell0 : ∀ i, i < lb → w.cell? (x.add i) = some (.int .u8 (zb i : Int))) :
    Calls Trym.prog 3 #[.slice (some x) lb c0, .int .u64 (wd : Int), .slice none 0 0] w fun e w' => e = .returned (.bool true) ∧ Below w.heap.size w w' := by
  have hneq1 := fun (wx : World) (a : Option Addr) (l c : Nat) => run_neq_slice_nil_any (P := Trym.prog) wx 22 5 a l c 0 0 Trym.underlying22
  have hneq2 := fun (wx : World) (a : Option Addr) (l c : Nat) => run_neq_slice_nil_any (P := Trym.prog) wx 24 28 a l c 0 0 Trym.underlying24
  have heql2 := fun (wx : World) (a : Option Addr) (l c : Nat) => Lib.run_eql_slice_nil (P := Trym.prog) wx 24 28 a l c 0 0 Trym.underlying24
  have z9 : decide ((wd : Int) < 1) = false := by simp; omega
  have z10 : decide ((9 : Int) < (wd : Int)) = false := by simp; omega
  have HC0 := hide hcell0
  have z6 : decide ((65536 : Int) < (lb : Int)) = false := by simp; omega
  clear hcell0

  go_enter Trym.func3, Trym.ntmps3
  go_wp2_with (first
    | (go_at_call 5; refine (bytes5_any _ _ _ _ _ _ _ _ (by unfold maxLen; omega) (by unfold maxLen; omega)).mono ?_; rintro e w' ⟨⟨r, rfl⟩, hw⟩; obtain rfl := hw.symm)
    | (go_at_call 6; refine (zz_zero _ _ _ _ _ wd _ hw1 hw9).mono ?_; rintro e w' ⟨rfl, hw⟩; obtain rfl := hw.symm)
    | (at_make; refine wpList_make_ints _ rfl _ _ 22 rfl 5 .u8 1 Trym.underlying22 Trym.info5 .i64 .i64 lb rfl rfl (by omega) (by omega) ?_; intro w1 hm1; obtain ⟨w2, hcp1, hi2, hb2⟩ := run_copy_ints (P := Trym.prog) w1 22 3 5 .u8 Trym.underlying22 Trym.size5 w.heap.size lb lb x c0 _ (fun i => (zb i : Int)) hm1.ints (fun i hi => cell_later hm1.below ((unhide HC0) i hi)); have HS1 := hide (state1 hm1 hi2 hb2); clear hm1 hi2 hb2))
  · go_ret
    exact ⟨rfl, Below.refl _ _⟩
  go_quiet (fail)
  go_wp2
  go_loopw [14, 15] (fun q i wr => q = .int .i64 0 ∧ i = .int .i64 0 ∧ Below w.heap.size w wr) (fun _ _ _ => 0)
  case atStart => exact ⟨rfl, rfl, below_drewN (unhide HS1).below _⟩
  case round =>
    obtain ⟨rfl, rfl, hbl⟩ := hrel
    have HBL := hide hbl
    clear hbl
    go_wp2
    go_ret
    exact ⟨rfl, unhide HBL⟩

set_option linter.unusedVariables false in
set_option maxRecDepth 1000000 in
set_option maxHeartbeats 1000000 in
theorem zero_ss (x : Addr) (lb c0 : Nat) (zb : Nat → Nat) (y : Addr) (c2 : Nat) (wd : Nat) (w : World) (hw1 : 1 ≤ wd) (hw9 : wd ≤ 9) (hlb : lb ≤ 65536) (hcell0 : ∀ i, i < lb → w.cell? (x.add i) = some (.int .u8 (zb i : Int))) :
    Calls Trym.prog 3 #[.slice (some x) lb c0, .int .u64 (wd : Int), .slice (some y) 0 c2] w fun e w' => e = .returned (.bool true) ∧ Below w.heap.size w w' := by
  have hneq1 := fun (wx : World) (a : Option Addr) (l c : Nat) => run_neq_slice_nil_any (P := Trym.prog) wx 22 5 a l c 0 0 Trym.underlying22
  have hneq2 := fun (wx : World) (a : Option Addr) (l c : Nat) => run_neq_slice_nil_any (P := Trym.prog) wx 24 28 a l c 0 0 Trym.underlying24
  have heql2 := fun (wx : World) (a : Option Addr) (l c : Nat) => Lib.run_eql_slice_nil (P := Trym.prog) wx 24 28 a l c 0 0 Trym.underlying24
  have z9 : decide ((wd : Int) < 1) = false := by simp; omega
  have z10 : decide ((9 : Int) < (wd : Int)) = false := by simp; omega
  have HC0 := hide hcell0
  have z6 : decide ((65536 : Int) < (lb : Int)) = false := by simp; omega
  clear hcell0

  go_enter Trym.func3, Trym.ntmps3
  go_wp2_with (first
    | (go_at_call 5; refine (bytes5_any _ _ _ _ _ _ _ _ (by unfold maxLen; omega) (by unfold maxLen; omega)).mono ?_; rintro e w' ⟨⟨r, rfl⟩, hw⟩; obtain rfl := hw.symm)
    | (go_at_call 6; refine (zz_zero _ _ _ _ _ wd _ hw1 hw9).mono ?_; rintro e w' ⟨rfl, hw⟩; obtain rfl := hw.symm)
    | (at_make; refine wpList_make_ints _ rfl _ _ 22 rfl 5 .u8 1 Trym.underlying22 Trym.info5 .i64 .i64 lb rfl rfl (by omega) (by omega) ?_; intro w1 hm1; obtain ⟨w2, hcp1, hi2, hb2⟩ := run_copy_ints (P := Trym.prog) w1 22 3 5 .u8 Trym.underlying22 Trym.size5 w.heap.size lb lb x c0 _ (fun i => (zb i : Int)) hm1.ints (fun i hi => cell_later hm1.below ((unhide HC0) i hi)); have HS1 := hide (state1 hm1 hi2 hb2); clear hm1 hi2 hb2)
    | (at_make; refine wpList_make_ints _ rfl _ _ 24 rfl 28 .i16 2 Trym.underlying24 Trym.info28 .i64 .i64 0 rfl rfl (by omega) (by omega) ?_; intro w3 hm3; obtain ⟨w4, hcp2, hi4, hb4⟩ := run_copy_ints (P := Trym.prog) w3 24 3 28 .i16 Trym.underlying24 Trym.size28 w2.heap.size 0 0 y c2 _ (fun _ => 0) hm3.ints (fun i hi => by omega); have HS2 := hide (state2 (unhide HS1) hm3 hi4 hb4); clear hm3 hi4 hb4))
  · go_ret
    exact ⟨rfl, Below.refl _ _⟩
  go_quiet (fail)
  go_wp2
  go_loopw [14, 15] (fun q i wr => q = .int .i64 0 ∧ i = .int .i64 0 ∧ Below w.heap.size w wr) (fun _ _ _ => 0)
  case atStart => exact ⟨rfl, rfl, below_drewN (unhide HS2).below _⟩
  case round =>
    obtain ⟨rfl, rfl, hbl⟩ := hrel
    have HBL := hide hbl
    clear hbl
    go_wp2
    go_ret
    exact ⟨rfl, unhide HBL⟩
end Go.Proofs.Qxb6602816aMods
