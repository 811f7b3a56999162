/- Seat b6602816aM: the walks: signedDigits and the laws' helpers. -/
import Derived.Test.Qxb6602816aModsProg
import Derived.Test.Qxb6602816aModsPlain
import Derived.WalkKit
import Derived.WalkSpells
import Derived.Laws.IdiomCopy
namespace Go.Proofs.Qxb6602816aMods
open Go.RowKit

/-- n cells of block b hold the numbers f 0, f 1, .. and may be written. -/
def Ints (k : IntKind) (w : World) (b n : Nat) (f : Nat → Int) : Prop :=
  ∀ i, i < n → w.cell? ⟨b, i, none⟩ = some (.int k (f i)) ∧ w.frozen? ⟨b, i, none⟩ = false

/-- w' is w but for the cells of block db. -/
structure But (db : Nat) (w w' : World) : Prop where
  os : w'.os = w.os
  tape : w'.tape = w.tape
  output : w'.output = w.output
  size : w'.heap.size = w.heap.size
  block : ∀ k, k ≠ db → w'.heap[k]? = w.heap[k]?

theorem But.refl (db : Nat) (w : World) : But db w w := ⟨rfl, rfl, rfl, rfl, fun _ _ => rfl⟩
theorem But.setCell {db : Nat} {w w' : World} (h : But db w w') (i : Nat) (v : Value) : But db w (w'.setCell ⟨db, i, none⟩ v) :=
  ⟨h.os, h.tape, h.output, by simpa [World.setCell] using h.size, fun k hk => (Below.heap_setCell w' ⟨db, i, none⟩ v k hk).trans (h.block k hk)⟩
theorem But.cell {db : Nat} {w w' : World} (h : But db w w') (b i : Nat) (hb : b ≠ db) : w'.cell? ⟨b, i, none⟩ = w.cell? ⟨b, i, none⟩ := World.cell?_of_block (h.block b hb)
theorem But.frozen {db : Nat} {w w' : World} (h : But db w w') (b i : Nat) (hb : b ≠ db) : w'.frozen? ⟨b, i, none⟩ = w.frozen? ⟨b, i, none⟩ := World.frozen?_of_block (h.block b hb)
theorem But.ints {db : Nat} {w w' : World} (h : But db w w') {k : IntKind} {b n : Nat} {f : Nat → Int} (hb : b ≠ db) (hi : Ints k w b n f) : Ints k w' b n f :=
  fun i hin => ⟨(h.cell b i hb).trans (hi i hin).1, (h.frozen b i hb).trans (hi i hin).2⟩
theorem But.below {db : Nat} {w w' : World} (h : But db w w') (B : Nat) (hB : B ≤ db) : Below B w w' :=
  ⟨h.os, h.tape, h.output, Nat.le_of_eq h.size.symm, fun k hk => h.block k (by omega)⟩

theorem Ints.set {k : IntKind} {w : World} {b n : Nat} {f : Nat → Int} (h : Ints k w b n f) (i : Nat) (hi : i < n) (x : Int) (g : Nat → Int) (hg : ∀ j, j < n → (if j = i then x else f j) = g j) :
    Ints k (w.setCell ⟨b, i, none⟩ (.int k x)) b n g := by
  intro j hj
  refine ⟨?_, by rw [World.frozen?_setCell]; exact (h j hj).2⟩
  rw [← hg j hj]
  by_cases e : j = i
  · subst e; rw [if_pos rfl]; exact World.cell?_setCell_same _ _ _ (h j hj).1
  · rw [if_neg e, World.cell?_setCell_other]
    · exact (h j hj).1
    · intro he; injection he with h1 h2; omega
theorem Ints.congr {k : IntKind} {w : World} {b n : Nat} {f g : Nat → Int} (h : Ints k w b n f) (hg : ∀ j, j < n → f j = g j) : Ints k w b n g :=
  fun j hj => by rw [← hg j hj]; exact h j hj

theorem kw_le (k wd : Nat) (hk : k ≤ 65536) (hw : wd ≤ 9) : k * wd ≤ 589824 := Nat.le_trans (Nat.mul_le_mul hk hw) (by decide)

theorem step_win (zb : Nat → Nat) (lb wd k : Nat) (f0 : Nat → Int) (x : Int) (hx : x = (win zb lb wd k : Int)) (j : Nat) :
    (if j = k then x else (fun j => if j < k then (win zb lb wd j : Int) else f0 j) j) = (fun j => if j < k + 1 then (win zb lb wd j : Int) else f0 j) j := by
  subst hx
  by_cases h1 : j = k
  · subst h1; simp
  · by_cases h2 : j < k
    · simp [h1, h2, show j < k + 1 by omega]
    · simp [h1, h2, show ¬ j < k + 1 by omega]

/-- A fact kept from the walk. -/
theorem hide {p : Prop} (h : p) : Hid p := h
theorem unhide {p : Prop} (h : Hid p) : p := h

set_option linter.unusedVariables false in
set_option maxHeartbeats 1000000 in
theorem sd_some (bb : Nat) (lb cb : Nat) (zb : Nat → Nat) (wd full half : Nat) (db n : Nat) (f0 : Nat → Int) (w : World) (hlb : lb ≤ 65536) (hn1 : 1 ≤ n) (hn : n ≤ 65536) (hw1 : 1 ≤ wd) (hw9 : wd ≤ 9)
    (hF : full = 2 ^ wd) (hH : half = 2 ^ (wd - 1)) (hd : Ints .i16 w db n f0) (hzb : ∀ i, zb i ≤ 255) (hne : bb ≠ db) (hby : Ints .u8 w bb lb (fun i => (zb i : Int))) :
    Calls Trym.prog 10 #[.slice (some ⟨bb, 0, none⟩) lb cb, .int .u64 (wd : Int), .slice (some ⟨db, 0, none⟩) n n] w fun e w' =>
      e = .returned (.slice (some ⟨db, 0, none⟩) n n) ∧ Ints .i16 w' db n (dig (win zb lb wd) half (n - 1)) ∧ But db w w' := by
  have HF : Hid (full = 2 ^ wd) := hF
  have HH : Hid (half = 2 ^ (wd - 1)) := hH
  have hf1 : 1 ≤ full := by rw [hF]; exact Nat.one_le_two_pow
  have hf2 : full ≤ 512 := by rw [hF]; exact (show 2 ^ wd ≤ 2 ^ 9 from Nat.pow_le_pow_right (by omega) hw9)
  have hh1 : 1 ≤ half := by rw [hH]; exact Nat.one_le_two_pow
  have hh2 : half ≤ 256 := by rw [hH]; exact (show 2 ^ (wd - 1) ≤ 2 ^ 8 from Nat.pow_le_pow_right (by omega) (by omega))
  have hfh : full = 2 * half := by rw [hF, hH, ← Nat.pow_succ']; congr 1; omega
  have HFH : Hid (full = 2 * half) := hfh
  have e1 : IntKind.u16.wrap ((2 : Int) ^ wd) = (full : Int) := by
    have : ((2 : Int) ^ wd) = (full : Int) := by rw [hF]; simp
    rw [this, IntKind.wrap_u16]; omega
  have e2 : IntKind.u16.wrap ((full : Int) - 1) = (full : Int) - 1 := by rw [IntKind.wrap_u16]; omega
  have e3 : IntKind.i16.wrap ((2 : Int) ^ (wd - 1)) = (half : Int) := by
    have : ((2 : Int) ^ (wd - 1)) = (half : Int) := by rw [hH]; simp
    rw [this]; simp [IntKind.wrap, IntKind.bits, IntKind.signed]; omega
  have e4 : IntKind.i16.wrap (2 * (half : Int)) = 2 * (half : Int) := by simp [IntKind.wrap, IntKind.bits, IntKind.signed]; omega
  have hwin := win_lt zb lb wd
  rw [← hF] at hwin
  clear hF hH hfh
  have HD := hide hd
  have HBY := hide hby
  clear hby
  clear hd
  go_enter Trym.func10, Trym.ntmps10
  go_wp2
  go_loopw [19] (fun i wr => ∃ k : Nat, k ≤ n ∧ i = .int .i64 k ∧ Ints .i16 wr db n (fun j => if j < k then (win zb lb wd j : Int) else f0 j) ∧ But db w wr) (fun i _ => n - (intOf i).toNat)
  case atStart => exact ⟨0, Nat.zero_le _, rfl, (unhide HD).congr (by intro j _; simp), But.refl _ _⟩
  case round =>
    obtain ⟨k, hk, rfl, hI, hB⟩ := hrel
    by_cases hlt : k < n
    · obtain ⟨hc1, hc2⟩ := hI k hlt
      have hkw := kw_le k wd (by omega) hw9
      obtain ⟨q, hqn⟩ : ∃ q : Nat, k * wd / 8 = q := ⟨_, rfl⟩
      obtain ⟨r, hrn⟩ : ∃ r : Nat, k * wd % 8 = r := ⟨_, rfl⟩
      have hq : (k : Int) * (wd : Int) / 8 = (q : Int) := by rw [← hqn]; simp
      have hr : (k : Int) * (wd : Int) % 8 = (r : Int) := by rw [← hrn]; simp
      have p1 : (0 : Int) ≤ (k : Int) * wd := by rw [← Int.natCast_mul]; omega
      have p2 : (k : Int) * wd ≤ 589824 := by rw [← Int.natCast_mul]; omega
      have hr8 : r ≤ 7 := by omega
      have HN : Hid (k * wd / 8 = q ∧ k * wd % 8 = r) := ⟨hqn, hrn⟩
      have HI := hide hI
      clear hqn hrn hkw hI
      by_cases hq1 : q < lb
      · have hbw : ∀ i, i < lb → wr.cell? ⟨bb, i, none⟩ = some (.int .u8 (zb i)) := fun i hi => (hB.cell bb i hne).trans ((unhide HBY) i hi).1
        have hcq := hbw q hq1
        have hx := hzb q
        by_cases hq2 : q + 1 < lb
        · have hcq2 := hbw (q + 1) hq2
          have hy := hzb (q + 1)
          have HW : Hid (IntKind.i16.wrap (bits BinOp.and IntKind.u16 (bits BinOp.or IntKind.u16 (zb q : Int) ((zb (q + 1) : Int) * 256) / 2 ^ r) ((full : Int) - 1)) = (win zb lb wd k : Int)) := by
            obtain ⟨a1, a2⟩ := HN.out
            rw [← a1, ← a2]; exact word2 zb lb wd k full hzb hw9 HF.out (by rw [a1]; exact hq2)
          generalize hx' : zb q = x at *
          generalize hy' : zb (q + 1) = y at *
          have q2i : (q : Int) + 1 < (lb : Int) := by omega
          have HBB := hide hB
          clear hbw hx' hy' hzb hwin hB
          go_wp2
          go_roundw
          case rel => exact ⟨k + 1, by omega, by go_num, (unhide HI).set k hlt _ _ (fun j _ => step_win zb lb wd k f0 _ HW.out j), (unhide HBB).setCell _ _⟩
          case measure => simp [intOf]; omega
        · have HW : Hid (IntKind.i16.wrap (bits BinOp.and IntKind.u16 ((zb q : Int) / 2 ^ r) ((full : Int) - 1)) = (win zb lb wd k : Int)) := by
            obtain ⟨a1, a2⟩ := HN.out
            rw [← a1, ← a2]; exact word1 zb lb wd k full hzb hw9 HF.out (by rw [a1]; exact hq1) (by rw [a1]; exact hq2)
          generalize hx' : zb q = x at *
          have q2i : ¬ (q : Int) + 1 < (lb : Int) := by omega
          have HBB := hide hB
          clear hbw hx' hzb hwin hB
          go_wp2
          go_roundw
          case rel => exact ⟨k + 1, by omega, by go_num, (unhide HI).set k hlt _ _ (fun j _ => step_win zb lb wd k f0 _ HW.out j), (unhide HBB).setCell _ _⟩
          case measure => simp [intOf]; omega
      · have HW : Hid (IntKind.i16.wrap (bits BinOp.and IntKind.u16 0 ((full : Int) - 1)) = (win zb lb wd k : Int)) := by
          obtain ⟨a1, a2⟩ := HN.out
          exact word0 zb lb wd k full hw9 HF.out (by rw [a1]; exact hq1)
        have HBB := hide hB
        clear hzb hwin hB
        go_wp2
        go_roundw
        case rel => exact ⟨k + 1, by omega, by go_num, (unhide HI).set k hlt _ _ (fun j _ => step_win zb lb wd k f0 _ HW.out j), (unhide HBB).setCell _ _⟩
        case measure => simp [intOf]; omega
    · obtain rfl : k = n := by omega
      have hI2 : Ints .i16 wr db k (dig (win zb lb wd) half 0) := hI.congr (by intro j hj; simp [hj, dig_start])
      clear hI
      have HI2 := hide hI2
      have HB := hide hB
      clear hI2 hB
      have m1 : (1 : Int) ≤ (k : Int) := by omega
      go_wp2
      go_loopw [70] (fun i wx => ∃ m : Nat, m ≤ k - 1 ∧ i = .int .i64 m ∧ Ints .i16 wx db k (dig (win zb lb wd) half m) ∧ But db w wx) (fun i _ => k - (intOf i).toNat)
      case atStart => exact ⟨0, Nat.zero_le _, rfl, unhide HI2, unhide HB⟩
      case round =>
        obtain ⟨m, hm, rfl, hJ, hC⟩ := hrel
        by_cases hlt2 : m < k - 1
        · have hmk : m < k := by omega
          have hmk1 : m + 1 < k := by omega
          have z1 : (m : Int) < (k : Int) - 1 := by omega
          obtain ⟨hc1, hc2⟩ := hJ m hmk
          obtain ⟨hd1, hd2⟩ := hJ (m + 1) hmk1
          have v0 : dig (win zb lb wd) half m m = (win zb lb wd m : Int) + car (win zb lb wd) half m := by simp [dig]
          have v1 : dig (win zb lb wd) half m (m + 1) = (win zb lb wd (m + 1) : Int) := by simp [dig]; intro h; omega
          rw [v0] at hc1
          rw [v1] at hd1
          have c0 := car_le (win zb lb wd) half m
          have b0 := hwin m
          have b1 := hwin (m + 1)
          have HCC : Hid (∀ j, (half ≤ win zb lb wd m + car (win zb lb wd) half m → (if j = m + 1 then (win zb lb wd (m + 1) : Int) + 1 else if j = m then ((win zb lb wd m : Int) + car (win zb lb wd) half m) - 2 * half else dig (win zb lb wd) half m j) = dig (win zb lb wd) half (m + 1) j) ∧ (¬ half ≤ win zb lb wd m + car (win zb lb wd) half m → dig (win zb lb wd) half m j = dig (win zb lb wd) half (m + 1) j)) := fun j => ⟨dig_carry _ _ _ _, dig_still _ _ _ _⟩
          generalize hv : win zb lb wd m = v at *
          generalize hu : win zb lb wd (m + 1) = u at *
          generalize hcc : car (win zb lb wd) half m = cc at *
          have HJ := hide hJ
          have HC := hide hC
          have HFH2 := HFH.out
          clear hJ hC hv hu hcc HD HI2 HB v0 v1 hwin
          by_cases hge : half ≤ v + cc
          · have t1 : (half : Int) ≤ (v : Int) + (cc : Int) := by omega
            have t2 : IntKind.i16.wrap ((v : Int) + (cc : Int) - 2 * (half : Int)) = (v : Int) + (cc : Int) - 2 * (half : Int) := by simp [IntKind.wrap, IntKind.bits, IntKind.signed]; omega
            have t3 : IntKind.i16.wrap ((u : Int) + 1) = (u : Int) + 1 := by simp [IntKind.wrap, IntKind.bits, IntKind.signed]; omega
            clear HFH2
            go_wp2
            go_roundw
            case rel => exact ⟨m + 1, by omega, by go_num, ((unhide HJ).set m hmk _ _ (fun _ _ => rfl)).set (m + 1) hmk1 _ _ (fun j _ => ((HCC.out j).1 hge)), ((unhide HC).setCell _ _).setCell _ _⟩
            case measure => simp [intOf]; omega
          · have t1 : ¬ (half : Int) ≤ (v : Int) + (cc : Int) := by omega
            clear HFH2
            go_wp2
            go_roundw
            case rel => exact ⟨m + 1, by omega, by go_num, (unhide HJ).congr (fun j _ => ((HCC.out j).2 hge)), unhide HC⟩
            case measure => simp [intOf]; omega
        · have HMK : Hid (m = k - 1) := by show m = k - 1; omega
          have HJ := hide hJ
          have HC := hide hC
          clear hJ hC HD HI2 HB hwin
          have z1 : ¬ ((m : Int) < (k : Int) - 1) := by omega
          go_wp2
          go_ret
          exact ⟨rfl, by rw [← unhide HMK]; exact unhide HJ, unhide HC⟩

set_option linter.unusedVariables false in
set_option maxHeartbeats 1000000 in
theorem sd_none (ab : Option Addr) (lb cb : Nat) (zb : Nat → Nat) (wd full half : Nat) (db n : Nat) (f0 : Nat → Int) (w : World) (hlb : lb ≤ 65536) (hn1 : 1 ≤ n) (hn : n ≤ 65536) (hw1 : 1 ≤ wd) (hw9 : wd ≤ 9)
    (hF : full = 2 ^ wd) (hH : half = 2 ^ (wd - 1)) (hd : Ints .i16 w db n f0) (hzb : ∀ i, zb i ≤ 255) (hl0 : lb ≤ 0) :
    Calls Trym.prog 10 #[.slice ab lb cb, .int .u64 (wd : Int), .slice (some ⟨db, 0, none⟩) n n] w fun e w' =>
      e = .returned (.slice (some ⟨db, 0, none⟩) n n) ∧ Ints .i16 w' db n (dig (win zb lb wd) half (n - 1)) ∧ But db w w' := by
  have HF : Hid (full = 2 ^ wd) := hF
  have HH : Hid (half = 2 ^ (wd - 1)) := hH
  have hf1 : 1 ≤ full := by rw [hF]; exact Nat.one_le_two_pow
  have hf2 : full ≤ 512 := by rw [hF]; exact (show 2 ^ wd ≤ 2 ^ 9 from Nat.pow_le_pow_right (by omega) hw9)
  have hh1 : 1 ≤ half := by rw [hH]; exact Nat.one_le_two_pow
  have hh2 : half ≤ 256 := by rw [hH]; exact (show 2 ^ (wd - 1) ≤ 2 ^ 8 from Nat.pow_le_pow_right (by omega) (by omega))
  have hfh : full = 2 * half := by rw [hF, hH, ← Nat.pow_succ']; congr 1; omega
  have HFH : Hid (full = 2 * half) := hfh
  have e1 : IntKind.u16.wrap ((2 : Int) ^ wd) = (full : Int) := by
    have : ((2 : Int) ^ wd) = (full : Int) := by rw [hF]; simp
    rw [this, IntKind.wrap_u16]; omega
  have e2 : IntKind.u16.wrap ((full : Int) - 1) = (full : Int) - 1 := by rw [IntKind.wrap_u16]; omega
  have e3 : IntKind.i16.wrap ((2 : Int) ^ (wd - 1)) = (half : Int) := by
    have : ((2 : Int) ^ (wd - 1)) = (half : Int) := by rw [hH]; simp
    rw [this]; simp [IntKind.wrap, IntKind.bits, IntKind.signed]; omega
  have e4 : IntKind.i16.wrap (2 * (half : Int)) = 2 * (half : Int) := by simp [IntKind.wrap, IntKind.bits, IntKind.signed]; omega
  have hwin := win_lt zb lb wd
  rw [← hF] at hwin
  clear hF hH hfh
  have HD := hide hd
  clear hd
  go_enter Trym.func10, Trym.ntmps10
  go_wp2
  go_loopw [19] (fun i wr => ∃ k : Nat, k ≤ n ∧ i = .int .i64 k ∧ Ints .i16 wr db n (fun j => if j < k then (win zb lb wd j : Int) else f0 j) ∧ But db w wr) (fun i _ => n - (intOf i).toNat)
  case atStart => exact ⟨0, Nat.zero_le _, rfl, (unhide HD).congr (by intro j _; simp), But.refl _ _⟩
  case round =>
    obtain ⟨k, hk, rfl, hI, hB⟩ := hrel
    by_cases hlt : k < n
    · obtain ⟨hc1, hc2⟩ := hI k hlt
      have hkw := kw_le k wd (by omega) hw9
      obtain ⟨q, hqn⟩ : ∃ q : Nat, k * wd / 8 = q := ⟨_, rfl⟩
      obtain ⟨r, hrn⟩ : ∃ r : Nat, k * wd % 8 = r := ⟨_, rfl⟩
      have hq : (k : Int) * (wd : Int) / 8 = (q : Int) := by rw [← hqn]; simp
      have hr : (k : Int) * (wd : Int) % 8 = (r : Int) := by rw [← hrn]; simp
      have p1 : (0 : Int) ≤ (k : Int) * wd := by rw [← Int.natCast_mul]; omega
      have p2 : (k : Int) * wd ≤ 589824 := by rw [← Int.natCast_mul]; omega
      have hr8 : r ≤ 7 := by omega
      have HN : Hid (k * wd / 8 = q ∧ k * wd % 8 = r) := ⟨hqn, hrn⟩
      have HI := hide hI
      clear hqn hrn hkw hI
      have HW : Hid (IntKind.i16.wrap (bits BinOp.and IntKind.u16 0 ((full : Int) - 1)) = (win zb lb wd k : Int)) := by
        obtain ⟨a1, a2⟩ := HN.out
        exact word0 zb lb wd k full hw9 HF.out (by rw [a1]; omega)
      have HBB := hide hB
      have q0 : ¬ (q : Int) < (lb : Int) := by omega
      clear hzb hwin hB
      go_wp2
      go_roundw
      case rel => exact ⟨k + 1, by omega, by go_num, (unhide HI).set k hlt _ _ (fun j _ => step_win zb lb wd k f0 _ HW.out j), (unhide HBB).setCell _ _⟩
      case measure => simp [intOf]; omega
    · obtain rfl : k = n := by omega
      have hI2 : Ints .i16 wr db k (dig (win zb lb wd) half 0) := hI.congr (by intro j hj; simp [hj, dig_start])
      clear hI
      have HI2 := hide hI2
      have HB := hide hB
      clear hI2 hB
      have m1 : (1 : Int) ≤ (k : Int) := by omega
      go_wp2
      go_loopw [70] (fun i wx => ∃ m : Nat, m ≤ k - 1 ∧ i = .int .i64 m ∧ Ints .i16 wx db k (dig (win zb lb wd) half m) ∧ But db w wx) (fun i _ => k - (intOf i).toNat)
      case atStart => exact ⟨0, Nat.zero_le _, rfl, unhide HI2, unhide HB⟩
      case round =>
        obtain ⟨m, hm, rfl, hJ, hC⟩ := hrel
        by_cases hlt2 : m < k - 1
        · have hmk : m < k := by omega
          have hmk1 : m + 1 < k := by omega
          have z1 : (m : Int) < (k : Int) - 1 := by omega
          obtain ⟨hc1, hc2⟩ := hJ m hmk
          obtain ⟨hd1, hd2⟩ := hJ (m + 1) hmk1
          have v0 : dig (win zb lb wd) half m m = (win zb lb wd m : Int) + car (win zb lb wd) half m := by simp [dig]
          have v1 : dig (win zb lb wd) half m (m + 1) = (win zb lb wd (m + 1) : Int) := by simp [dig]; intro h; omega
          rw [v0] at hc1
          rw [v1] at hd1
          have c0 := car_le (win zb lb wd) half m
          have b0 := hwin m
          have b1 := hwin (m + 1)
          have HCC : Hid (∀ j, (half ≤ win zb lb wd m + car (win zb lb wd) half m → (if j = m + 1 then (win zb lb wd (m + 1) : Int) + 1 else if j = m then ((win zb lb wd m : Int) + car (win zb lb wd) half m) - 2 * half else dig (win zb lb wd) half m j) = dig (win zb lb wd) half (m + 1) j) ∧ (¬ half ≤ win zb lb wd m + car (win zb lb wd) half m → dig (win zb lb wd) half m j = dig (win zb lb wd) half (m + 1) j)) := fun j => ⟨dig_carry _ _ _ _, dig_still _ _ _ _⟩
          generalize hv : win zb lb wd m = v at *
          generalize hu : win zb lb wd (m + 1) = u at *
          generalize hcc : car (win zb lb wd) half m = cc at *
          have HJ := hide hJ
          have HC := hide hC
          have HFH2 := HFH.out
          clear hJ hC hv hu hcc HD HI2 HB v0 v1 hwin
          by_cases hge : half ≤ v + cc
          · have t1 : (half : Int) ≤ (v : Int) + (cc : Int) := by omega
            have t2 : IntKind.i16.wrap ((v : Int) + (cc : Int) - 2 * (half : Int)) = (v : Int) + (cc : Int) - 2 * (half : Int) := by simp [IntKind.wrap, IntKind.bits, IntKind.signed]; omega
            have t3 : IntKind.i16.wrap ((u : Int) + 1) = (u : Int) + 1 := by simp [IntKind.wrap, IntKind.bits, IntKind.signed]; omega
            clear HFH2
            go_wp2
            go_roundw
            case rel => exact ⟨m + 1, by omega, by go_num, ((unhide HJ).set m hmk _ _ (fun _ _ => rfl)).set (m + 1) hmk1 _ _ (fun j _ => ((HCC.out j).1 hge)), ((unhide HC).setCell _ _).setCell _ _⟩
            case measure => simp [intOf]; omega
          · have t1 : ¬ (half : Int) ≤ (v : Int) + (cc : Int) := by omega
            clear HFH2
            go_wp2
            go_roundw
            case rel => exact ⟨m + 1, by omega, by go_num, (unhide HJ).congr (fun j _ => ((HCC.out j).2 hge)), unhide HC⟩
            case measure => simp [intOf]; omega
        · have HMK : Hid (m = k - 1) := by show m = k - 1; omega
          have HJ := hide hJ
          have HC := hide hC
          clear hJ hC HD HI2 HB hwin
          have z1 : ¬ ((m : Int) < (k : Int) - 1) := by omega
          go_wp2
          go_ret
          exact ⟨rfl, by rw [← unhide HMK]; exact unhide HJ, unhide HC⟩

set_option maxHeartbeats 400000 in
/-- No digit: nothing happens. -/
theorem sd_zero (ab ad : Option Addr) (lb cb cd wd : Nat) (w : World) (hw1 : 1 ≤ wd) (hw9 : wd ≤ 9) :
    Calls Trym.prog 10 #[.slice ab lb cb, .int .u64 (wd : Int), .slice ad 0 cd] w fun e w' => e = .returned (.slice ad 0 cd) ∧ w' = w := by
  go_enter Trym.func10, Trym.ntmps10
  go_wp2
  go_loopw [19] (fun i wr => i = .int .i64 0 ∧ w = wr) (fun _ _ => 0)
  case atStart => exact ⟨rfl, rfl⟩
  case round =>
    obtain ⟨rfl, rfl⟩ := hrel
    go_wp2
    go_loopw [70] (fun i wx => i = .int .i64 0 ∧ w = wx) (fun _ _ => 0)
    case atStart => exact ⟨rfl, rfl⟩
    case round =>
      obtain ⟨rfl, rfl⟩ := hrel
      go_wp2
      go_ret
      exact ⟨rfl, rfl⟩
end Go.Proofs.Qxb6602816aMods
