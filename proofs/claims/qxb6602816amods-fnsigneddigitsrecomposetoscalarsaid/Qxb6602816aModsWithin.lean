/- Seat b6602816aM: the walk of FnSignedDigitsWithinHalfForScalarBelow2to253. -/
import Derived.Test.Qxb6602816aModsWalks2
namespace Go.Proofs.Qxb6602816aMods
open Go.RowKit

/-- Behind the first clone: block B holds the bytes. -/
structure S1 (w w2 : World) (lb : Nat) (f : Nat → Int) : Prop where
  below : Below w.heap.size w w2
  size : w2.heap.size = w.heap.size + 1
  ints : Ints .u8 w2 w.heap.size lb f
theorem S1.le {w w2 : World} {lb : Nat} {f : Nat → Int} (h : S1 w w2 lb f) : w.heap.size ≤ w2.heap.size := by rw [h.size]; omega
theorem state1 {w w1 w2 : World} {lb : Nat} {f : Nat → Int} (hm : Made .u8 w w1 lb) (hi : Ints .u8 w2 w.heap.size lb f) (hb : But w.heap.size w1 w2) : S1 w w2 lb f :=
  ⟨hm.below.trans (hb.below _ (Nat.le_refl _)), hb.size.trans hm.size, hi⟩
/-- Behind the second: block D holds the digits. -/
structure S2 (w w2 w4 : World) (lb n : Nat) (f g : Nat → Int) : Prop where
  below : Below w.heap.size w w4
  ne : w.heap.size ≠ w2.heap.size
  le : w.heap.size ≤ w2.heap.size
  ints : Ints .u8 w4 w.heap.size lb f
  digs : Ints .i16 w4 w2.heap.size n g
theorem state2 {w w2 w3 w4 : World} {lb n : Nat} {f g : Nat → Int} (h : S1 w w2 lb f) (hm : Made .i16 w2 w3 n) (hi : Ints .i16 w4 w2.heap.size n g) (hb : But w2.heap.size w3 w4) : S2 w w2 w4 lb n f g := by
  have hlt : w.heap.size < w2.heap.size := by rw [h.size]; omega
  refine ⟨(h.below.trans (hm.below.mono h.le)).trans (hb.below _ h.le), by omega, h.le, ?_, hi⟩
  refine hb.ints (by omega) (fun i hin => ?_)
  have := h.ints i hin
  exact ⟨(hm.below.cell (p := ⟨w.heap.size, i, none⟩) hlt).trans this.1, (hm.below.frozen (p := ⟨w.heap.size, i, none⟩) hlt).trans this.2⟩

/-- Where there is no first clone. -/
structure S0 (w w4 : World) (n : Nat) (g : Nat → Int) : Prop where
  below : Below w.heap.size w w4
  digs : Ints .i16 w4 w.heap.size n g
theorem state0 {w w3 w4 : World} {n : Nat} {g : Nat → Int} (hm : Made .i16 w w3 n) (hi : Ints .i16 w4 w.heap.size n g) (hb : But w.heap.size w3 w4) : S0 w w4 n g :=
  ⟨hm.below.trans (hb.below _ (Nat.le_refl _)), hi⟩

theorem below_any (x : Addr) (lb c : Nat) (zb : Nat → Nat) (w : World) (hlb : lb ≤ 65536) (hc : ∀ i, i < lb → w.cell? (x.add i) = some (.int .u8 (zb i : Int))) :
    Calls Trym.prog 9 #[.slice (some x) lb c] w fun e w' => LowSaid zb lb e ∧ w' = w := by
  by_cases h0 : lb = 0
  · subst h0
    exact (below_zero _ _ _).mono fun e w' ⟨he, hw⟩ => ⟨⟨true, he, fun _ => ⟨by simp [byt], fun i _ => by simp [byt]⟩⟩, hw⟩
  · obtain ⟨b, off, spot⟩ := x
    have hs : spot = none := by simpa [Addr.add] using World.cell?_spot (hc 0 (by omega))
    subst hs
    exact below_some b off lb c zb w hlb (fun i hi => by rw [← Addr.add_lit]; exact hc i hi)

set_option linter.unusedVariables false in
set_option maxRecDepth 100000 in
set_option maxHeartbeats 1000000 in
theorem within_some (x : Addr) (lb c0 : Nat) (zb : Nat → Nat) (wd : Nat) (y : Addr) (n c2 : Nat) (z2 : List Int) (w : World) (hlb : lb ≤ 65536) (hzb : ∀ i, zb i ≤ 255) (hcell0 : ∀ i, i < lb → w.cell? (x.add i) = some (.int .u8 (zb i : Int)))
    (hn : n ≤ 65536) (hnc : n ≤ c2) (hw1 : 1 ≤ wd) (hw9 : wd ≤ 9) (h254 : 254 ≤ wd * n) (hz2 : z2.length = c2) (hcell2 : ∀ i, i < z2.length → w.cell? (y.add i) = some (.int .i16 (z2.getD i 0))) :
    Calls Trym.prog 4 #[.slice (some x) lb c0, .int .u64 (wd : Int), .slice (some y) n c2] w fun e w' => e = .returned (.bool true) ∧ Below w.heap.size w w' := by
  have n1 : 1 ≤ n := by
    rcases n with _ | n
    · simp at h254
    · omega
  have p1 : (0 : Int) ≤ (wd : Int) * (n : Int) := by rw [← Int.natCast_mul]; omega
  have hkw := kw_le n wd hn hw9
  have p2 : (wd : Int) * (n : Int) ≤ 589824 := by rw [← Int.natCast_mul, Nat.mul_comm]; omega
  have p3 : ¬ (wd : Int) * (n : Int) < 254 := by rw [← Int.natCast_mul]; omega
  obtain ⟨half, hH⟩ : ∃ half : Nat, half = 2 ^ (wd - 1) := ⟨_, rfl⟩
  have hh1 : 1 ≤ half := by rw [hH]; exact Nat.one_le_two_pow
  have hh2 : half ≤ 256 := by rw [hH]; exact (show 2 ^ (wd - 1) ≤ 2 ^ 8 from Nat.pow_le_pow_right (by omega) (by omega))
  have e3 : wrap64 ((2 : Int) ^ (wd - 1)) = (half : Int) := by
    have : ((2 : Int) ^ (wd - 1)) = (half : Int) := by rw [hH]; simp
    rw [this]; unfold wrap64; omega
  have HH := hide hH
  have H254 := hide h254
  have HC2 := hide hcell2
  have HZ2 := hide hz2
  have hneq1 := fun (wx : World) (a : Option Addr) (l c : Nat) => run_neq_slice_nil_any (P := Trym.prog) wx 22 5 a l c 0 0 Trym.underlying22
  have hneq2 := fun (wx : World) (a : Option Addr) (l c : Nat) => run_neq_slice_nil_any (P := Trym.prog) wx 24 28 a l c 0 0 Trym.underlying24
  clear hH h254 hcell2 hz2 hkw
  have HC0 := hide hcell0
  have HZB := hide hzb
  have z6 : decide ((65536 : Int) < (lb : Int)) = false := by simp; omega
  clear hcell0 hzb
  have z5 : decide ((65536 : Int) < (n : Int)) = false := by simp; omega
  go_enter Trym.func4, Trym.ntmps4
  go_wp2_with (first
    | (go_at_call 8; refine (bytes8_any _ _ _ _ _ _ _ _ (by unfold maxLen; omega) (by unfold maxLen; omega)).mono ?_; rintro e w' ⟨⟨r, rfl⟩, hw⟩; obtain rfl := hw.symm)
    | (go_at_call 9; refine (below_any x lb c0 zb _ hlb (unhide HC0)).mono ?_; rintro e w' ⟨⟨r2, rfl, hlow⟩, hw⟩; obtain rfl := hw.symm; have HL := hide hlow; clear hlow)
    | (at_make; refine wpList_make_ints _ rfl _ _ 22 rfl 5 .u8 1 Trym.underlying22 Trym.info5 .i64 .i64 lb rfl rfl (by omega) (by omega) ?_; intro w1 hm1; obtain ⟨w2, hcp1, hi2, hb2⟩ := run_copy_ints (P := Trym.prog) w1 22 3 5 .u8 Trym.underlying22 Trym.size5 w.heap.size lb lb x c0 _ (fun i => (zb i : Int)) hm1.ints (fun i hi => cell_later hm1.below ((unhide HC0) i hi)); have HS1 := hide (state1 hm1 hi2 hb2); clear hm1 hi2 hb2)
    | (at_make; refine wpList_make_ints _ rfl _ _ 24 rfl 28 .i16 2 Trym.underlying24 Trym.info28 .i64 .i64 n rfl rfl (by omega) (by omega) ?_; intro w3 hm3; obtain ⟨w4, hcp2, hi4, hb4⟩ := run_copy_ints (P := Trym.prog) w3 24 3 28 .i16 Trym.underlying24 Trym.size28 w2.heap.size n n y c2 _ (fun i => z2.getD i 0) hm3.ints (fun i hi => cell_later ((unhide HS1).below.trans (hm3.below.mono (unhide HS1).le)) ((unhide HC2) i (by rw [unhide HZ2]; omega))); have HS2 := hide (state2 (unhide HS1) hm3 hi4 hb4); clear hm3 hi4 hb4))
  · go_ret
    exact ⟨rfl, Below.refl _ _⟩
  · go_ret
    exact ⟨rfl, Below.refl _ _⟩
  refine (zz_some w.heap.size lb lb zb wd half w2.heap.size n _ _ hlb n1 hn hw1 hw9 (unhide HH) (unhide HS2).digs (unhide HZB) (unhide HS2).ne (unhide HS2).ints).mono ?_
  rintro e w5 ⟨rfl, hI, hB⟩
  have hlow : Low zb lb := (unhide HL) (by simpa using ‹(!r2) = false›)
  have hlast := last_small' zb lb wd n half hw1 hw9 (unhide HH) (unhide H254) (unhide HZB) hlow.1 hlow.2
  have hmid := fun k => win_lt' zb lb wd k half hw1 (unhide HH)
  have BL : Hid (Below w.heap.size w w5) := (unhide HS2).below.trans (hB.below _ (unhide HS2).le)
  have HI := hide hI
  have HMID := hide hmid
  have HLAST := hide hlast
  clear hI hB hlow hlast hmid HC2 HZ2 hcp2 HS2 HS1 HZB HC0 hcp1 HL
  go_wp2
  go_loop [12] (fun i => ∃ k : Nat, k ≤ n ∧ i = .int .i64 k) (fun i => n - (intOf i).toNat)
  case atStart => exact ⟨0, Nat.zero_le _, rfl⟩
  case round =>
    obtain ⟨k, hk, rfl⟩ := hrel
    by_cases hlt : k < n
    · have hc := ((unhide HI) k hlt).1
      by_cases hl1 : k < n - 1
      · have hd := dig_mid_bd _ half (n - 1) k hl1 ((unhide HMID) k)
        generalize dig (win zb lb wd) half (n - 1) k = d at hc hd
        obtain ⟨hd1, hd2⟩ := hd
        have t1 : ¬ d < -(half : Int) := by omega
        have t2 : ¬ (half : Int) < d := by omega
        have t3 : (k : Int) < (n : Int) - 1 := by omega
        have t4 : (d == (half : Int)) = false := by simp; omega
        go_wp2
        go_round
        case rel => exact ⟨k + 1, by omega, by go_num⟩
        case measure => simp [intOf]; omega
      · have hkn : k = n - 1 := by omega
        have hd := dig_last_bd _ half (n - 1) (unhide HLAST)
        rw [hkn] at hc
        generalize dig (win zb lb wd) half (n - 1) (n - 1) = d at hc hd
        obtain ⟨hd1, hd2⟩ := hd
        rw [← hkn] at hc
        clear hkn
        have t1 : ¬ d < -(half : Int) := by omega
        have t2 : ¬ (half : Int) < d := by omega
        have t3 : ¬ (k : Int) < (n : Int) - 1 := by omega
        go_wp2
        go_round
        case rel => exact ⟨k + 1, by omega, by go_num⟩
        case measure => simp [intOf]; omega
    · have hc := ((unhide HI) (n - 1) (by omega)).1
      have hd := dig_last_bd _ half (n - 1) (unhide HLAST)
      generalize dig (win zb lb wd) half (n - 1) (n - 1) = d at hc hd
      obtain ⟨hd1, hd2⟩ := hd
      have i1 : ((n : Int) - 1).toNat = n - 1 := by omega
      have i2 : (0 : Int) ≤ (n : Int) - 1 := by omega
      have i3 : (n : Int) - 1 < (n : Int) := by omega
      go_wp2
      go_ret
      exact ⟨rfl, unhide BL⟩

set_option linter.unusedVariables false in
set_option maxRecDepth 100000 in
set_option maxHeartbeats 1000000 in
theorem within_none  (wd : Nat) (y : Addr) (n c2 : Nat) (z2 : List Int) (w : World) 
    (hn : n ≤ 65536) (hnc : n ≤ c2) (hw1 : 1 ≤ wd) (hw9 : wd ≤ 9) (h254 : 254 ≤ wd * n) (hz2 : z2.length = c2) (hcell2 : ∀ i, i < z2.length → w.cell? (y.add i) = some (.int .i16 (z2.getD i 0))) :
    Calls Trym.prog 4 #[.slice none 0 0, .int .u64 (wd : Int), .slice (some y) n c2] w fun e w' => e = .returned (.bool true) ∧ Below w.heap.size w w' := by
  have n1 : 1 ≤ n := by
    rcases n with _ | n
    · simp at h254
    · omega
  have p1 : (0 : Int) ≤ (wd : Int) * (n : Int) := by rw [← Int.natCast_mul]; omega
  have hkw := kw_le n wd hn hw9
  have p2 : (wd : Int) * (n : Int) ≤ 589824 := by rw [← Int.natCast_mul, Nat.mul_comm]; omega
  have p3 : ¬ (wd : Int) * (n : Int) < 254 := by rw [← Int.natCast_mul]; omega
  obtain ⟨half, hH⟩ : ∃ half : Nat, half = 2 ^ (wd - 1) := ⟨_, rfl⟩
  have hh1 : 1 ≤ half := by rw [hH]; exact Nat.one_le_two_pow
  have hh2 : half ≤ 256 := by rw [hH]; exact (show 2 ^ (wd - 1) ≤ 2 ^ 8 from Nat.pow_le_pow_right (by omega) (by omega))
  have e3 : wrap64 ((2 : Int) ^ (wd - 1)) = (half : Int) := by
    have : ((2 : Int) ^ (wd - 1)) = (half : Int) := by rw [hH]; simp
    rw [this]; unfold wrap64; omega
  have HH := hide hH
  have H254 := hide h254
  have HC2 := hide hcell2
  have HZ2 := hide hz2
  have hneq1 := fun (wx : World) (a : Option Addr) (l c : Nat) => run_neq_slice_nil_any (P := Trym.prog) wx 22 5 a l c 0 0 Trym.underlying22
  have hneq2 := fun (wx : World) (a : Option Addr) (l c : Nat) => run_neq_slice_nil_any (P := Trym.prog) wx 24 28 a l c 0 0 Trym.underlying24
  clear hH h254 hcell2 hz2 hkw
  have hzb : ∀ i : Nat, (fun _ : Nat => (0 : Nat)) i ≤ 255 := fun _ => Nat.zero_le _
  have HZB := hide hzb
  clear hzb
  have z5 : decide ((65536 : Int) < (n : Int)) = false := by simp; omega
  go_enter Trym.func4, Trym.ntmps4
  go_wp2_with (first
    | (go_at_call 8; refine (bytes8_any _ _ _ _ _ _ _ _ (by unfold maxLen; omega) (by unfold maxLen; omega)).mono ?_; rintro e w' ⟨⟨r, rfl⟩, hw⟩; obtain rfl := hw.symm)
    | (go_at_call 9; refine (below_zero _ _ _).mono ?_; rintro e w' ⟨rfl, hw⟩; obtain rfl := hw.symm)
    | (at_make; refine wpList_make_ints _ rfl _ _ 24 rfl 28 .i16 2 Trym.underlying24 Trym.info28 .i64 .i64 n rfl rfl (by omega) (by omega) ?_; intro w3 hm3; obtain ⟨w4, hcp2, hi4, hb4⟩ := run_copy_ints (P := Trym.prog) w3 24 3 28 .i16 Trym.underlying24 Trym.size28 w.heap.size n n y c2 _ (fun i => z2.getD i 0) hm3.ints (fun i hi => cell_later hm3.below ((unhide HC2) i (by rw [unhide HZ2]; omega))); have HS2 := hide (state0 hm3 hi4 hb4); clear hm3 hi4 hb4))
  · go_ret
    exact ⟨rfl, Below.refl _ _⟩
  refine (zz_none none 0 (fun _ => 0) wd half w.heap.size n _ _ n1 hn hw1 hw9 (unhide HH) (unhide HS2).digs (unhide HZB)).mono ?_
  rintro e w5 ⟨rfl, hI, hB⟩
  have hlow : Low (fun _ => 0) 0 := ⟨by simp [byt], fun i _ => by simp [byt]⟩
  have hlast := last_small' (fun _ => 0) 0 wd n half hw1 hw9 (unhide HH) (unhide H254) (unhide HZB) hlow.1 hlow.2
  have hmid := fun k => win_lt' (fun _ => 0) 0 wd k half hw1 (unhide HH)
  have BL : Hid (Below w.heap.size w w5) := (unhide HS2).below.trans (hB.below _ (Nat.le_refl _))
  have HI := hide hI
  have HMID := hide hmid
  have HLAST := hide hlast
  clear hI hB hlow hlast hmid HC2 HZ2 hcp2 HS2 HZB
  go_wp2
  go_loop [12] (fun i => ∃ k : Nat, k ≤ n ∧ i = .int .i64 k) (fun i => n - (intOf i).toNat)
  case atStart => exact ⟨0, Nat.zero_le _, rfl⟩
  case round =>
    obtain ⟨k, hk, rfl⟩ := hrel
    by_cases hlt : k < n
    · have hc := ((unhide HI) k hlt).1
      by_cases hl1 : k < n - 1
      · have hd := dig_mid_bd _ half (n - 1) k hl1 ((unhide HMID) k)
        generalize dig (win (fun _ => 0) 0 wd) half (n - 1) k = d at hc hd
        obtain ⟨hd1, hd2⟩ := hd
        have t1 : ¬ d < -(half : Int) := by omega
        have t2 : ¬ (half : Int) < d := by omega
        have t3 : (k : Int) < (n : Int) - 1 := by omega
        have t4 : (d == (half : Int)) = false := by simp; omega
        go_wp2
        go_round
        case rel => exact ⟨k + 1, by omega, by go_num⟩
        case measure => simp [intOf]; omega
      · have hkn : k = n - 1 := by omega
        have hd := dig_last_bd _ half (n - 1) (unhide HLAST)
        rw [hkn] at hc
        generalize dig (win (fun _ => 0) 0 wd) half (n - 1) (n - 1) = d at hc hd
        obtain ⟨hd1, hd2⟩ := hd
        rw [← hkn] at hc
        clear hkn
        have t1 : ¬ d < -(half : Int) := by omega
        have t2 : ¬ (half : Int) < d := by omega
        have t3 : ¬ (k : Int) < (n : Int) - 1 := by omega
        go_wp2
        go_round
        case rel => exact ⟨k + 1, by omega, by go_num⟩
        case measure => simp [intOf]; omega
    · have hc := ((unhide HI) (n - 1) (by omega)).1
      have hd := dig_last_bd _ half (n - 1) (unhide HLAST)
      generalize dig (win (fun _ => 0) 0 wd) half (n - 1) (n - 1) = d at hc hd
      obtain ⟨hd1, hd2⟩ := hd
      have i1 : ((n : Int) - 1).toNat = n - 1 := by omega
      have i2 : (0 : Int) ≤ (n : Int) - 1 := by omega
      have i3 : (n : Int) - 1 < (n : Int) := by omega
      go_wp2
      go_ret
      exact ⟨rfl, unhide BL⟩
end Go.Proofs.Qxb6602816aMods
