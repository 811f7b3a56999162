/- Seat b6602878aM: the walks: (*lineEnds).add. -/
import Derived.Test.Qxb6602878aModsLaws
namespace Go.Proofs.Qxb6602878aMods
open Go.RowKit
theorem follows : Trym.prog.follows .mixedOrders = true := by kernel_rfl
theorem Trym.size5 : (Trym.prog.info? 5).map (·.size) = some 1 := by kernel_rfl

theorem sliceAt_from {P : Program} (t e : TypeId) (N : Nat) (hu : P.underlying t = some (.array N e)) (hs : (P.info? e).map (·.size) = some 1) (g off l : Nat) (x : Int) (hx : x = (l : Int)) (hl : l < N) (w : World) :
    (Instr.sliceAt t (.pointer (some ⟨g, off, none⟩)) (some (.int .i64 x)) none none).run P w = .ok (.slice (some ⟨g, off + l, none⟩) (N - l) (N - l)) w := by
  obtain ⟨i, hi, hsz⟩ := Option.map_eq_some_iff.1 hs
  subst hx
  have h1 : 0 ≤ (l : Int) ∧ (l : Int) ≤ (N : Int) := by omega
  have h2 : ¬ N = l := by omega
  simp [Instr.sliceAt, Instr.sureAddr, run_underlying hu, Instr.sliceBounds, Instr.sliceBound, asIntOf, sizeOf, typeInfo, hi, hsz, h1, h2, Addr.add_lit]
  intro h; omega
theorem sliceAt_end {P : Program} (t e : TypeId) (N : Nat) (hu : P.underlying t = some (.array N e)) (hs : (P.info? e).map (·.size) = some 1) (g off : Nat) (x : Int) (hx : x = (N : Int)) (w : World) :
    (Instr.sliceAt t (.pointer (some ⟨g, off, none⟩)) (some (.int .i64 x)) none none).run P w = .ok (.slice (some ⟨g, off, none⟩) 0 0) w := by
  obtain ⟨i, hi, hsz⟩ := Option.map_eq_some_iff.1 hs
  subst hx
  have h1 : 0 ≤ (N : Int) ∧ (N : Int) ≤ (N : Int) := by omega
  simp [Instr.sliceAt, Instr.sureAddr, run_underlying hu, Instr.sliceBounds, Instr.sliceBound, asIntOf, sizeOf, typeInfo, hi, h1]
theorem sliceAt_all {P : Program} (t e : TypeId) (N : Nat) (hu : P.underlying t = some (.array N e)) (hs : (P.info? e).map (·.size) = some 1) (g off : Nat) (w : World) :
    (Instr.sliceAt t (.pointer (some ⟨g, off, none⟩)) none none none).run P w = .ok (.slice (some ⟨g, off, none⟩) N N) w := by
  obtain ⟨i, hi, hsz⟩ := Option.map_eq_some_iff.1 hs
  simp [Instr.sliceAt, Instr.sureAddr, run_underlying hu, Instr.sliceBounds, sizeOf, typeInfo, hi, Addr.add]
theorem slice_from {P : Program} (t e : TypeId) (hu : P.underlying t = some (.slice e)) (hs : (P.info? e).map (·.size) = some 1) (g off l n : Nat) (x : Int) (hx : x = (l : Int)) (hl : l < n) (w : World) :
    (Instr.slice t (.slice (some ⟨g, off, none⟩) n n) (some (.int .i64 x)) none none).run P w = .ok (.slice (some ⟨g, off + l, none⟩) (n - l) (n - l)) w := by
  obtain ⟨i, hi, hsz⟩ := Option.map_eq_some_iff.1 hs
  subst hx
  have h1 : 0 ≤ (l : Int) ∧ (l : Int) ≤ (n : Int) := by omega
  have h2 : ¬ n = l := by omega
  simp [Instr.slice, run_underlying hu, Instr.sliceBounds, Instr.sliceBound, asIntOf, sizeOf, typeInfo, hi, hsz, h1, h2, Addr.add_lit]
  intro h; omega

theorem sliceAt_slice_from {P : Program} (t e : TypeId) (hu : P.underlying t = some (.slice e)) (hs : (P.info? e).map (·.size) = some 1) (g off l n : Nat) (x : Int) (hx : x = (l : Int)) (hl : l < n) (w : World) :
    (Instr.sliceAt t (.slice (some ⟨g, off, none⟩) n n) (some (.int .i64 x)) none none).run P w = .ok (.slice (some ⟨g, off + l, none⟩) (n - l) (n - l)) w := by
  have := slice_from t e hu hs g off l n x hx hl w
  simp only [Instr.sliceAt, Sem.run_bind, run_underlying hu, Result.andThen_ok]
  exact this

/-- The cells of a lineEnds. -/
def line (n : Int) (F L : Nat → Int) (j : Nat) : Value := if j = 0 then .int .i64 n else if j < 65 then .int .u8 (F (j - 1)) else .int .u8 (L (j - 65))
/-- The slice's l bytes p 0, p 1, .. lie in a block of their own, not g. -/
def Src (w : World) (g : Nat) (pa : Option Addr) (l : Nat) (p : Nat → Int) : Prop := l = 0 ∨ ∃ b, pa = some ⟨b, 0, none⟩ ∧ b ≠ g ∧ Blk w b l (fun i => .int .u8 (p i))
def newF (n : Int) (l : Nat) (F p : Nat → Int) (i : Nat) : Int := if n ≤ (i : Int) ∧ (i : Int) - n < (l : Int) then p (i - n.toNat) else F i
def newL (l : Nat) (L p : Nat → Int) (i : Nat) : Int := if l + i < 9 then L (l + i) else p (l + i - 9)

theorem ones_u8 (k : Nat) (p : Nat → Int) : Ones k (fun i => .int .u8 (p i)) := fun _ _ => rfl
theorem line_0 (n : Int) (F L : Nat → Int) : line n F L 0 = .int .i64 n := rfl
theorem line_first (n : Int) (F L : Nat → Int) (j : Nat) (hj : j < 64) : line n F L (1 + j) = .int .u8 (F j) := by
  unfold line; rw [if_neg (by omega), if_pos (by omega), Nat.add_sub_cancel_left]
theorem line_last (n : Int) (F L : Nat → Int) (j : Nat) : line n F L (65 + j) = .int .u8 (L j) := by
  unfold line; rw [if_neg (by omega), if_neg (by omega), Nat.add_sub_cancel_left]

/-! ### what the copies come to -/
theorem first_put (n : Nat) (l : Nat) (F L p : Nat → Int) (hn : n < 64) (j : Nat) : put (1 + n) (Nat.min l (64 - n)) (fun i => .int .u8 (p i)) (line n F L) j = line n (newF n l F p) L j := by
  have hmin : Nat.min l (64 - n) = min l (64 - n) := rfl
  unfold put line newF
  by_cases h0 : j = 0
  · subst h0
    rw [if_neg (by omega), if_pos rfl, if_pos rfl]
  · by_cases h1 : j < 65
    · by_cases h2 : 1 + n ≤ j ∧ j < 1 + n + Nat.min l (64 - n)
      · rw [if_pos h2, if_neg h0, if_pos h1, if_pos (by rw [hmin] at h2; omega), show j - (1 + n) = j - 1 - (n : Int).toNat by omega]
      · rw [if_neg h2, if_neg h0, if_pos h1, if_neg h0, if_pos h1, if_neg (by rw [hmin] at h2; omega)]
    · rw [if_neg (by rw [hmin]; omega), if_neg h0, if_neg h1, if_neg h0, if_neg h1]
theorem first_keep (n : Int) (l : Nat) (F L p : Nat → Int) (hn : 64 ≤ n) (j : Nat) : line n F L j = line n (newF n l F p) L j := by
  unfold line newF
  by_cases h0 : j = 0
  · rw [if_pos h0, if_pos h0]
  · by_cases h1 : j < 65
    · rw [if_neg h0, if_pos h1, if_neg h0, if_pos h1, if_neg (by omega)]
    · rw [if_neg h0, if_neg h1, if_neg h0, if_neg h1]
theorem n_put (n m : Int) (F L : Nat → Int) (j : Nat) : (if j = 0 then Value.int .i64 m else line n F L j) = line m F L j := by
  unfold line
  by_cases h0 : j = 0
  · rw [if_pos h0, if_pos h0]
  · rw [if_neg h0, if_neg h0, if_neg h0]
theorem last_long (n : Int) (l : Nat) (F L p : Nat → Int) (hl : 9 ≤ l) (j : Nat) (hj : j < 74) : put 65 9 (fun i => .int .u8 (p (l - 9 + i))) (line n F L) j = line n F (newL l L p) j := by
  unfold put line newL
  by_cases h0 : j < 65
  · rw [if_neg (by omega)]
    by_cases h1 : j = 0
    · rw [if_pos h1, if_pos h1]
    · rw [if_neg h1, if_pos h0, if_neg h1, if_pos h0]
  · rw [if_pos (by omega), if_neg (by omega), if_neg h0, if_neg (by omega)]
    simp only []
    rw [show l - 9 + (j - 65) = l + (j - 65) - 9 by omega]
theorem last_short (n : Int) (l : Nat) (F L p : Nat → Int) (hl : l < 9) (j : Nat) (hj : j < 74) :
    put (65 + (9 - l)) l (fun i => .int .u8 (p i)) (put 65 (9 - l) (fun i => .int .u8 (L (l + i))) (line n F L)) j = line n F (newL l L p) j := by
  unfold put line newL
  by_cases h0 : j < 65
  · rw [if_neg (by omega), if_neg (by omega)]
    by_cases h1 : j = 0
    · rw [if_pos h1, if_pos h1]
    · rw [if_neg h1, if_pos h0, if_neg h1, if_pos h0]
  · by_cases h2 : j < 65 + (9 - l)
    · rw [if_neg (by omega), if_pos (by omega), if_neg (by omega), if_neg h0, if_pos (by omega)]
    · rw [if_pos (by omega), if_neg (by omega), if_neg h0, if_neg (by omega), show j - (65 + (9 - l)) = l + (j - 65) - 9 by omega]

set_option linter.unusedVariables false in
set_option maxHeartbeats 1000000 in
theorem add_A (g : Nat) (F L p : Nat → Int) (l : Nat) (n : Nat) (b : Nat) (w : World) (hl : l ≤ 1048576) (hn : n < 64) (h9 : 9 ≤ l) (hb : Blk w g 74 (line n F L)) (hbg : b ≠ g) (hp : Blk w b l (fun i => .int .u8 (p i))) :
    Calls Trym.prog 23 #[.pointer (some ⟨g, 0, none⟩), .slice (some ⟨b, 0, none⟩) l l] w fun e w' => e = .returned (.tuple #[]) ∧ Blk w' g 74 (line (wrap64 (n + l)) (newF n l F p) (newL l L p)) ∧ But g w w' := by
  have c0 : w.cell? ⟨g, 0, none⟩ = some (.int .i64 (n : Int)) := hb.cell 0 (by omega)
  have n1 : (n : Int) < 64 := by omega
  have hs1 := fun wx => sliceAt_from 22 5 64 Trym.underlying22 Trym.size5 g 1 n (n : Int) rfl hn wx
  have HP := hide hp
  clear hp
  have HB := hide hb
  clear hb
  go_enter Trym.func23, Trym.ntmps23
  go_wp2
  refine wp_region_still_tail 9 follows (by kernel_rfl) ?_
  simp only [List.take_succ_cons, List.take_zero, List.drop_succ_cons, List.drop_zero]
  repeat still_step
  refine wpStill_nil ?_
  refine wpList_copy_blk rfl _ _ 24 rfl 5 Trym.underlying24 Trym.size5 g 74 (line n F L) (unhide HB) _ _ (1 + n) _ _ _ _ _ (fun i => .int .u8 (p i)) rfl rfl rfl ?_ ?_ (ones_u8 _ _) ?_
  · intro hm
    have hm2 : 0 < min l (64 - n) := hm
    refine ⟨rfl, _, rfl, fun j hj => ?_⟩
    rw [Addr.add_lit]
    have hj2 : j < min l (64 - n) := hj
    have := (unhide HP).cell j (by omega)
    simpa using this
  · have : Nat.min l (64 - n) ≤ 64 - n := Nat.min_le_right _ _
    omega
  intro w1 hb1 hbut1
  have HB1 := hide (hb1.congr (v' := line n (newF n l F p) L) (fun j _ => first_put n l F L p hn j))
  have HBUT1 : Hid (But g w w1) := ⟨hbut1.os, hbut1.tape, hbut1.output, hbut1.size, hbut1.block⟩
  have c1 : w1.cell? ⟨g, 0, none⟩ = some (.int .i64 (n : Int)) := (unhide HB1).cell 0 (by omega)
  have f1 : w1.frozen? ⟨g, 0, none⟩ = false := (unhide HB1).frozen 0
  have hm1 : wrap64 ((n : Int) + (l : Int)) = (n : Int) + (l : Int) := by unfold wrap64; omega
  obtain ⟨m, hm⟩ : ∃ m, (n : Int) + (l : Int) = m := ⟨_, rfl⟩
  rw [hm] at hm1
  have HM := hide hm1
  have HM2 := hide hm
  clear hb1 hbut1 HB c0 hm1 hm
  go_wp2
  obtain ⟨w2, hw2⟩ : ∃ w2, (w1).setCell ⟨g, 0, none⟩ (Value.int .i64 ((n : Int) + (l : Int))) = w2 := ⟨_, rfl⟩
  rw [hw2]
  have HB2 : Hid (Blk w2 g 74 (line m (newF n l F p) L)) := by
    rw [← hw2, unhide HM2]
    exact ((unhide HB1).setCell 0 _).congr (fun j _ => n_put n m (newF n l F p) L j)
  have HBUT2 : Hid (But g w w2) := by rw [← hw2]; exact (unhide HBUT1).setCell _ _
  clear hw2 HB1 HBUT1 c1 f1
  have hs2 := fun wx => sliceAt_all 23 5 9 Trym.underlying23 Trym.size5 g 65 wx
  have hs3 := fun wx => slice_from 24 5 Trym.underlying24 Trym.size5 b 0 (l - 9) l ((l : Int) - 9) (by omega) (by omega) wx
  have hs4 := fun wx => sliceAt_slice_from 24 5 Trym.underlying24 Trym.size5 b 0 (l - 9) l ((l : Int) - 9) (by omega) (by omega) wx
  have hwr : IntKind.i64.wrap ((l : Int) - 9) = (l : Int) - 9 := by rw [IntKind.wrap_i64]; omega
  refine wp_region_still_tail 9 follows (by kernel_rfl) ?_
  simp only [List.take_succ_cons, List.take_zero, List.drop_succ_cons, List.drop_zero]
  repeat still_step
  refine wpStill_nil ?_
  have hmin : Nat.min (l - (l - 9)) 9 = 9 := by show min (l - (l - 9)) 9 = 9; omega
  refine wpList_copy_blk rfl _ _ 24 rfl 5 Trym.underlying24 Trym.size5 g 74 (line m (newF n l F p) L) (unhide HB2) _ _ 65 _ _ _ _ 9 (fun i => .int .u8 (p (l - 9 + i))) rfl rfl hmin.symm ?_ (by omega) (ones_u8 _ (fun i => p (l - 9 + i))) ?_
  · intro _
    refine ⟨rfl, _, rfl, fun j hj => ?_⟩
    rw [Addr.add_lit]
    have := ((unhide HBUT2).blk hbg (unhide HP)).cell (l - 9 + j) (by omega)
    simpa using this
  intro w3 hb3 hbut3
  have HB3 := hide (hb3.congr (v' := line m (newF n l F p) (newL l L p)) (fun j hj => last_long m l (newF n l F p) L p h9 j hj))
  have HBUT3 := hide ((unhide HBUT2).trans ⟨hbut3.os, hbut3.tape, hbut3.output, hbut3.size, hbut3.block⟩)
  clear hb3 hbut3 HB2 HBUT2
  go_wp2
  refine bodyPost_ret (results_none rfl _ _ _) rfl ?_
  refine ⟨rfl, ?_, unhide HBUT3⟩
  have e := unhide HM2
  rw [e, unhide HM]; exact unhide HB3

set_option linter.unusedVariables false in
set_option maxHeartbeats 1000000 in
theorem add_B (g : Nat) (F L p : Nat → Int) (l : Nat) (n : Nat) (pa : Option Addr) (w : World) (hl : l ≤ 1048576) (hn : n < 64) (h9 : l < 9) (hb : Blk w g 74 (line n F L)) (hp : Src w g pa l p) :
    Calls Trym.prog 23 #[.pointer (some ⟨g, 0, none⟩), .slice pa l l] w fun e w' => e = .returned (.tuple #[]) ∧ Blk w' g 74 (line (wrap64 (n + l)) (newF n l F p) (newL l L p)) ∧ But g w w' := by
  have c0 : w.cell? ⟨g, 0, none⟩ = some (.int .i64 (n : Int)) := hb.cell 0 (by omega)
  have n1 : (n : Int) < 64 := by omega
  have hs1 := fun wx => sliceAt_from 22 5 64 Trym.underlying22 Trym.size5 g 1 n (n : Int) rfl hn wx
  have HP := hide hp
  clear hp
  have HB := hide hb
  clear hb
  go_enter Trym.func23, Trym.ntmps23
  go_wp2
  refine wp_region_still_tail 9 follows (by kernel_rfl) ?_
  simp only [List.take_succ_cons, List.take_zero, List.drop_succ_cons, List.drop_zero]
  repeat still_step
  refine wpStill_nil ?_
  refine wpList_copy_blk rfl _ _ 24 rfl 5 Trym.underlying24 Trym.size5 g 74 (line n F L) (unhide HB) _ _ (1 + n) _ _ _ _ _ (fun i => .int .u8 (p i)) rfl rfl rfl ?_ ?_ (ones_u8 _ _) ?_
  · intro hm
    have hm2 : 0 < min l (64 - n) := hm
    rcases unhide HP with h0 | ⟨b, rfl, hbg, hpb⟩
    · omega
    refine ⟨rfl, _, rfl, fun j hj => ?_⟩
    rw [Addr.add_lit]
    have hj2 : j < min l (64 - n) := hj
    have := hpb.cell j (by omega)
    simpa using this
  · have : Nat.min l (64 - n) ≤ 64 - n := Nat.min_le_right _ _
    omega
  intro w1 hb1 hbut1
  have HB1 := hide (hb1.congr (v' := line n (newF n l F p) L) (fun j _ => first_put n l F L p hn j))
  have HBUT1 : Hid (But g w w1) := ⟨hbut1.os, hbut1.tape, hbut1.output, hbut1.size, hbut1.block⟩
  have c1 : w1.cell? ⟨g, 0, none⟩ = some (.int .i64 (n : Int)) := (unhide HB1).cell 0 (by omega)
  have f1 : w1.frozen? ⟨g, 0, none⟩ = false := (unhide HB1).frozen 0
  have hm1 : wrap64 ((n : Int) + (l : Int)) = (n : Int) + (l : Int) := by unfold wrap64; omega
  obtain ⟨m, hm⟩ : ∃ m, (n : Int) + (l : Int) = m := ⟨_, rfl⟩
  rw [hm] at hm1
  have HM := hide hm1
  have HM2 := hide hm
  clear hb1 hbut1 HB c0 hm1 hm
  go_wp2
  obtain ⟨w2, hw2⟩ : ∃ w2, (w1).setCell ⟨g, 0, none⟩ (Value.int .i64 ((n : Int) + (l : Int))) = w2 := ⟨_, rfl⟩
  rw [hw2]
  have HB2 : Hid (Blk w2 g 74 (line m (newF n l F p) L)) := by
    rw [← hw2, unhide HM2]
    exact ((unhide HB1).setCell 0 _).congr (fun j _ => n_put n m (newF n l F p) L j)
  have HBUT2 : Hid (But g w w2) := by rw [← hw2]; exact (unhide HBUT1).setCell _ _
  clear hw2 HB1 HBUT1 c1 f1
  have hs2 := fun wx => sliceAt_all 23 5 9 Trym.underlying23 Trym.size5 g 65 wx
  have hs3 := fun wx => sliceAt_from 23 5 9 Trym.underlying23 Trym.size5 g 65 l (l : Int) rfl h9 wx
  refine wp_region_still_tail 10 follows (by kernel_rfl) ?_
  simp only [List.take_succ_cons, List.take_zero, List.drop_succ_cons, List.drop_zero]
  repeat still_step
  refine wpStill_nil ?_
  have hmin : Nat.min (9 - l) 9 = 9 - l := by show min (9 - l) 9 = 9 - l; omega
  refine wpList_copy_blk rfl _ _ 24 rfl 5 Trym.underlying24 Trym.size5 g 74 (line m (newF n l F p) L) (unhide HB2) _ _ 65 _ _ _ _ (9 - l) (fun i => .int .u8 (L (l + i))) rfl rfl hmin.symm ?_ (by omega) (ones_u8 _ (fun i => L (l + i))) ?_
  · intro _
    refine ⟨rfl, _, rfl, fun j hj => ?_⟩
    rw [Addr.add_lit]
    have := (unhide HB2).cell (65 + (l + j)) (by omega)
    rw [line_last] at this
    rw [Nat.add_assoc]
    exact this
  intro w3 hb3 hbut3
  have HBUT3 := hide ((unhide HBUT2).trans ⟨hbut3.os, hbut3.tape, hbut3.output, hbut3.size, hbut3.block⟩)
  obtain ⟨w4, hr4, hb4, hbut4⟩ := run_copy_blk (P := Trym.prog) w3 24 3 5 Trym.underlying24 Trym.size5 g 74 _ hb3 (if l = 0 then some ⟨g, 65, none⟩ else some ⟨g, 65 + (9 - l), none⟩) pa (65 + (9 - l)) l l l l l (fun i => .int .u8 (p i)) (Nat.min_self l).symm (fun hpos => by
    rw [if_neg (by omega)]
    refine ⟨rfl, ?_⟩
    rcases unhide HP with h0 | ⟨b, hpa, hbg, hpb⟩
    · omega
    refine ⟨⟨b, 0, none⟩, hpa, fun j hj => ?_⟩
    rw [Addr.add_lit]
    have := ((unhide HBUT3).blk hbg hpb).cell j hj
    simpa using this) (by omega) (ones_u8 _ _)
  have HB4 := hide (hb4.congr (v' := line m (newF n l F p) (newL l L p)) (fun j hj => last_short m l (newF n l F p) L p h9 j hj))
  have HBUT4 := hide ((unhide HBUT3).trans hbut4)
  clear hb3 hbut3 HB2 HBUT2 HBUT3 hb4 hbut4
  have hs5 : ∀ wx, (Instr.sliceAt 23 (.pointer (some ⟨g, 65, none⟩)) (some (.int .i64 (9 - (l : Int)))) none none).run Trym.prog wx = .ok (.slice (if l = 0 then some ⟨g, 65, none⟩ else some ⟨g, 65 + (9 - l), none⟩) l l) wx := by
    intro wx
    by_cases h0 : l = 0
    · subst h0
      exact sliceAt_end 23 5 9 Trym.underlying23 Trym.size5 g 65 _ (by simp) wx
    · rw [if_neg h0]
      have := sliceAt_from 23 5 9 Trym.underlying23 Trym.size5 g 65 (9 - l) (9 - (l : Int)) (by omega) (by omega) wx
      rw [show 9 - (9 - l) = l by omega] at this
      exact this
  generalize (if l = 0 then some (⟨g, 65, none⟩ : Addr) else some ⟨g, 65 + (9 - l), none⟩) = dp at hr4 hs5
  go_wp2
  go_end0
  refine ⟨rfl, ?_, unhide HBUT4⟩
  have e := unhide HM2
  rw [e, unhide HM]; exact unhide HB4

set_option linter.unusedVariables false in
set_option maxHeartbeats 1000000 in
theorem add_C (g : Nat) (F L p : Nat → Int) (l : Nat) (n : Int) (b : Nat) (w : World) (hl : l ≤ 1048576) (hn : 64 ≤ n) (h9 : 9 ≤ l) (hb : Blk w g 74 (line n F L)) (hbg : b ≠ g) (hp : Blk w b l (fun i => .int .u8 (p i))) :
    Calls Trym.prog 23 #[.pointer (some ⟨g, 0, none⟩), .slice (some ⟨b, 0, none⟩) l l] w fun e w' => e = .returned (.tuple #[]) ∧ Blk w' g 74 (line (wrap64 (n + l)) (newF n l F p) (newL l L p)) ∧ But g w w' := by
  have c0 : w.cell? ⟨g, 0, none⟩ = some (.int .i64 (n : Int)) := hb.cell 0 (by omega)
  have n1 : ¬ n < 64 := by omega
  have f0 : w.frozen? ⟨g, 0, none⟩ = false := hb.frozen 0
  have HP := hide hp
  clear hp
  have HB := hide hb
  clear hb
  go_enter Trym.func23, Trym.ntmps23
  go_wp2
  have HB1 := hide ((unhide HB).congr (v' := line n (newF n l F p) L) (fun j _ => first_keep n l F L p hn j))
  have HBUT1 : Hid (But g w w) := But.refl g w
  obtain ⟨m, hm⟩ : ∃ m, wrap64 (n + (l : Int)) = m := ⟨_, rfl⟩
  have HM : Hid (wrap64 m = m) := by show wrap64 m = m; rw [← hm]; unfold wrap64; omega
  have HM2 := hide hm
  clear HB hm
  obtain ⟨w2, hw2⟩ : ∃ w2, (w).setCell ⟨g, 0, none⟩ (Value.int .i64 (wrap64 (n + (l : Int)))) = w2 := ⟨_, rfl⟩
  rw [hw2]
  have HB2 : Hid (Blk w2 g 74 (line m (newF n l F p) L)) := by
    rw [← hw2, unhide HM2]
    exact ((unhide HB1).setCell 0 _).congr (fun j _ => n_put n m (newF n l F p) L j)
  have HBUT2 : Hid (But g w w2) := by rw [← hw2]; exact (unhide HBUT1).setCell _ _
  clear hw2 HB1 HBUT1 c0 f0
  have hs2 := fun wx => sliceAt_all 23 5 9 Trym.underlying23 Trym.size5 g 65 wx
  have hs3 := fun wx => slice_from 24 5 Trym.underlying24 Trym.size5 b 0 (l - 9) l ((l : Int) - 9) (by omega) (by omega) wx
  have hs4 := fun wx => sliceAt_slice_from 24 5 Trym.underlying24 Trym.size5 b 0 (l - 9) l ((l : Int) - 9) (by omega) (by omega) wx
  have hwr : IntKind.i64.wrap ((l : Int) - 9) = (l : Int) - 9 := by rw [IntKind.wrap_i64]; omega
  refine wp_region_still_tail 9 follows (by kernel_rfl) ?_
  simp only [List.take_succ_cons, List.take_zero, List.drop_succ_cons, List.drop_zero]
  repeat still_step
  refine wpStill_nil ?_
  have hmin : Nat.min (l - (l - 9)) 9 = 9 := by show min (l - (l - 9)) 9 = 9; omega
  refine wpList_copy_blk rfl _ _ 24 rfl 5 Trym.underlying24 Trym.size5 g 74 (line m (newF n l F p) L) (unhide HB2) _ _ 65 _ _ _ _ 9 (fun i => .int .u8 (p (l - 9 + i))) rfl rfl hmin.symm ?_ (by omega) (ones_u8 _ (fun i => p (l - 9 + i))) ?_
  · intro _
    refine ⟨rfl, _, rfl, fun j hj => ?_⟩
    rw [Addr.add_lit]
    have := ((unhide HBUT2).blk hbg (unhide HP)).cell (l - 9 + j) (by omega)
    simpa using this
  intro w3 hb3 hbut3
  have HB3 := hide (hb3.congr (v' := line m (newF n l F p) (newL l L p)) (fun j hj => last_long m l (newF n l F p) L p h9 j hj))
  have HBUT3 := hide ((unhide HBUT2).trans ⟨hbut3.os, hbut3.tape, hbut3.output, hbut3.size, hbut3.block⟩)
  clear hb3 hbut3 HB2 HBUT2
  go_wp2
  refine bodyPost_ret (results_none rfl _ _ _) rfl ?_
  refine ⟨rfl, ?_, unhide HBUT3⟩
  have e := unhide HM2
  rw [e]; exact unhide HB3

set_option linter.unusedVariables false in
set_option maxHeartbeats 1000000 in
theorem add_D (g : Nat) (F L p : Nat → Int) (l : Nat) (n : Int) (pa : Option Addr) (w : World) (hl : l ≤ 1048576) (hn : 64 ≤ n) (h9 : l < 9) (hb : Blk w g 74 (line n F L)) (hp : Src w g pa l p) :
    Calls Trym.prog 23 #[.pointer (some ⟨g, 0, none⟩), .slice pa l l] w fun e w' => e = .returned (.tuple #[]) ∧ Blk w' g 74 (line (wrap64 (n + l)) (newF n l F p) (newL l L p)) ∧ But g w w' := by
  have c0 : w.cell? ⟨g, 0, none⟩ = some (.int .i64 (n : Int)) := hb.cell 0 (by omega)
  have n1 : ¬ n < 64 := by omega
  have f0 : w.frozen? ⟨g, 0, none⟩ = false := hb.frozen 0
  have HP := hide hp
  clear hp
  have HB := hide hb
  clear hb
  go_enter Trym.func23, Trym.ntmps23
  go_wp2
  have HB1 := hide ((unhide HB).congr (v' := line n (newF n l F p) L) (fun j _ => first_keep n l F L p hn j))
  have HBUT1 : Hid (But g w w) := But.refl g w
  obtain ⟨m, hm⟩ : ∃ m, wrap64 (n + (l : Int)) = m := ⟨_, rfl⟩
  have HM : Hid (wrap64 m = m) := by show wrap64 m = m; rw [← hm]; unfold wrap64; omega
  have HM2 := hide hm
  clear HB hm
  obtain ⟨w2, hw2⟩ : ∃ w2, (w).setCell ⟨g, 0, none⟩ (Value.int .i64 (wrap64 (n + (l : Int)))) = w2 := ⟨_, rfl⟩
  rw [hw2]
  have HB2 : Hid (Blk w2 g 74 (line m (newF n l F p) L)) := by
    rw [← hw2, unhide HM2]
    exact ((unhide HB1).setCell 0 _).congr (fun j _ => n_put n m (newF n l F p) L j)
  have HBUT2 : Hid (But g w w2) := by rw [← hw2]; exact (unhide HBUT1).setCell _ _
  clear hw2 HB1 HBUT1 c0 f0
  have hs2 := fun wx => sliceAt_all 23 5 9 Trym.underlying23 Trym.size5 g 65 wx
  have hs3 := fun wx => sliceAt_from 23 5 9 Trym.underlying23 Trym.size5 g 65 l (l : Int) rfl h9 wx
  refine wp_region_still_tail 10 follows (by kernel_rfl) ?_
  simp only [List.take_succ_cons, List.take_zero, List.drop_succ_cons, List.drop_zero]
  repeat still_step
  refine wpStill_nil ?_
  have hmin : Nat.min (9 - l) 9 = 9 - l := by show min (9 - l) 9 = 9 - l; omega
  refine wpList_copy_blk rfl _ _ 24 rfl 5 Trym.underlying24 Trym.size5 g 74 (line m (newF n l F p) L) (unhide HB2) _ _ 65 _ _ _ _ (9 - l) (fun i => .int .u8 (L (l + i))) rfl rfl hmin.symm ?_ (by omega) (ones_u8 _ (fun i => L (l + i))) ?_
  · intro _
    refine ⟨rfl, _, rfl, fun j hj => ?_⟩
    rw [Addr.add_lit]
    have := (unhide HB2).cell (65 + (l + j)) (by omega)
    rw [line_last] at this
    rw [Nat.add_assoc]
    exact this
  intro w3 hb3 hbut3
  have HBUT3 := hide ((unhide HBUT2).trans ⟨hbut3.os, hbut3.tape, hbut3.output, hbut3.size, hbut3.block⟩)
  obtain ⟨w4, hr4, hb4, hbut4⟩ := run_copy_blk (P := Trym.prog) w3 24 3 5 Trym.underlying24 Trym.size5 g 74 _ hb3 (if l = 0 then some ⟨g, 65, none⟩ else some ⟨g, 65 + (9 - l), none⟩) pa (65 + (9 - l)) l l l l l (fun i => .int .u8 (p i)) (Nat.min_self l).symm (fun hpos => by
    rw [if_neg (by omega)]
    refine ⟨rfl, ?_⟩
    rcases unhide HP with h0 | ⟨b, hpa, hbg, hpb⟩
    · omega
    refine ⟨⟨b, 0, none⟩, hpa, fun j hj => ?_⟩
    rw [Addr.add_lit]
    have := ((unhide HBUT3).blk hbg hpb).cell j hj
    simpa using this) (by omega) (ones_u8 _ _)
  have HB4 := hide (hb4.congr (v' := line m (newF n l F p) (newL l L p)) (fun j hj => last_short m l (newF n l F p) L p h9 j hj))
  have HBUT4 := hide ((unhide HBUT3).trans hbut4)
  clear hb3 hbut3 HB2 HBUT2 HBUT3 hb4 hbut4
  have hs5 : ∀ wx, (Instr.sliceAt 23 (.pointer (some ⟨g, 65, none⟩)) (some (.int .i64 (9 - (l : Int)))) none none).run Trym.prog wx = .ok (.slice (if l = 0 then some ⟨g, 65, none⟩ else some ⟨g, 65 + (9 - l), none⟩) l l) wx := by
    intro wx
    by_cases h0 : l = 0
    · subst h0
      exact sliceAt_end 23 5 9 Trym.underlying23 Trym.size5 g 65 _ (by simp) wx
    · rw [if_neg h0]
      have := sliceAt_from 23 5 9 Trym.underlying23 Trym.size5 g 65 (9 - l) (9 - (l : Int)) (by omega) (by omega) wx
      rw [show 9 - (9 - l) = l by omega] at this
      exact this
  generalize (if l = 0 then some (⟨g, 65, none⟩ : Addr) else some ⟨g, 65 + (9 - l), none⟩) = dp at hr4 hs5
  go_wp2
  go_end0
  refine ⟨rfl, ?_, unhide HBUT4⟩
  have e := unhide HM2
  rw [e]; exact unhide HB4
end Go.Proofs.Qxb6602878aMods
