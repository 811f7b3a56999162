/- Seat b6602816aM: the walks, second part: make and copy into a new block; zzBytes, zzBelow2to253, zzBitAt, zzWindow, ZZsignedDigits. -/
import Derived.Test.Qxb6602816aModsWalks
namespace Go.Proofs.Qxb6602816aMods
open Go.RowKit

theorem Trym.info5 : (Trym.prog.info? 5).map (fun i => (i.zero, i.size, i.bytes)) = some (some (.int .u8 0), 1, 1) := by kernel_rfl
theorem Trym.info28 : (Trym.prog.info? 28).map (fun i => (i.zero, i.size, i.bytes)) = some (some (.int .i16 0), 1, 2) := by kernel_rfl
theorem Trym.size5 : (Trym.prog.info? 5).map (·.size) = some 1 := by kernel_rfl
theorem Trym.size28 : (Trym.prog.info? 28).map (·.size) = some 1 := by kernel_rfl

/-- w' is w and one new block of n cells that hold 0. -/
structure Made (k : IntKind) (w w' : World) (n : Nat) : Prop where
  below : Below w.heap.size w w'
  size : w'.heap.size = w.heap.size + 1
  ints : Ints k w' w.heap.size n (fun _ => 0)

theorem made_alloc (k : IntKind) (w : World) (n : Nat) (e : TypeId) : Made k w (w.alloc (.cells (madeCells #[.int k 0] n) e)) n := by
  refine ⟨(Below.refl _ _).alloc (Nat.le_refl _) _, by simp, fun i hi => ?_⟩
  have hb : (w.alloc (.cells (madeCells #[Value.int k 0] n) e)).heap[w.heap.size]? = some (.cells (madeCells #[.int k 0] n) e (0, 0)) := by
    show (w.heap.push _)[w.heap.size]? = _
    simp
  constructor
  · unfold World.cell?
    simp only []
    rw [hb]
    simp [madeCells, hi, Nat.mod_one]
  · unfold World.frozen?
    simp only []
    rw [hb]
    simp

/-- 'make([]T, n)', n a variable, T an integer kind of one cell. -/
theorem wpList_make_ints {P : Program} (w : World) {ops : Array Oper} {rest : List Oper} {o : Oper} {a : Act} {Q : Exit → Act → World → Prop}
    (hg : o.guard = none) (l c : Operand) (t : TypeId) (hop : o.op = Op.makeSlice t l c) (e : TypeId) (k : IntKind) (bytes : Nat) (h1 : P.underlying t = some (.slice e))
    (h2 : (P.info? e).map (fun i => (i.zero, i.size, i.bytes)) = some (some (.int k 0), 1, bytes)) (kl kc : IntKind) (n : Nat) (hl : a.eval l = .int kl (n : Int)) (hc : a.eval c = .int kc (n : Int)) (b1 : bytes * n ≤ 281474976710656) (b2 : n ≤ 9223372036854775807)
    (hK : ∀ w', Made k w w' n → wpList P ops Q rest (a.put o.dst (.slice (some ⟨w.heap.size, 0, none⟩) n n)) w') :
    wpList P ops Q (o :: rest) a w := by
  refine wpList_plain hg fun K hK' => ?_
  obtain ⟨i, hi, hz, hs, hby⟩ := info_parts h2
  have hb' : (i.bytes : Int) * (n : Int) ≤ 281474976710656 := by
    have h : ((i.bytes * n : Nat) : Int) ≤ 281474976710656 := by rw [hby]; omega
    rwa [Int.natCast_mul] at h
  have hr := run_make (P := P) w t e i (.int k 0) h1 hi hz kl kc n n (by omega) (Int.le_refl _) hb' (by omega)
  simp only [Int.toNat_natCast, hs, Nat.mul_one] at hr
  unfold Oper.wp
  simp [execOp, hop, hl, hc, hr, Result.andThen]
  exact hK' _ _ (hK _ (made_alloc k w n e))

theorem but_setCells (db : Nat) : ∀ (vs : List Value) (o : Nat) (w : World), But db w (w.setCells db o vs)
  | [], _, w => But.refl db w
  | v :: r, o, w => by
    have h := but_setCells db r (o + 1) (w.setCell ⟨db, o, none⟩ v)
    have h0 := (But.refl db w).setCell o v
    exact ⟨h.os.trans h0.os, h.tape.trans h0.tape, h.output.trans h0.output, h.size.trans h0.size, fun k hk => (h.block k hk).trans (h0.block k hk)⟩

/-- 'copy(dst, src)' of n integers into the block db, as an equation for the walk. -/
theorem run_copy_ints {P : Program} (w : World) (t ty e : TypeId) (k : IntKind) (h1 : P.underlying t = some (.slice e)) (h2 : (P.info? e).map (·.size) = some 1)
    (db n dc : Nat) (x : Addr) (sc : Nat) (f g : Nat → Int) (hf : Ints k w db n f) (hsrc : ∀ i, i < n → w.cell? (x.add i) = some (.int k (g i))) :
    ∃ w', (Builtin.copy_ #[t, t] ty #[.slice (some ⟨db, 0, none⟩) n dc, .slice (some x) n sc]).run P w = .ok (goInt n) w' ∧ Ints k w' db n g ∧ But db w w' := by
  have hlen : ((List.range n).map fun i => Value.int k (g i)).length = n := by simp
  have hr := run_copy_cells (P := P) w t t ty e db 0 n dc x n sc ((List.range n).map fun i => Value.int k (g i)) h1 h2 (by simp)
    (fun j v hv => by
      rw [List.getElem?_map] at hv
      by_cases hj : j < n
      · rw [List.getElem?_range hj] at hv
        simp at hv
        rw [hsrc j hj, hv]
      · rw [List.getElem?_eq_none (by simpa using hj)] at hv
        simp at hv)
    (fun j hj => by rw [hlen] at hj; simp [(hf j hj).1]) (fun j hj => by rw [hlen] at hj; simp [(hf j hj).2]) (fun v hv => by
      obtain ⟨_, _, rfl⟩ := List.mem_map.1 hv
      rfl)
  rw [hlen] at hr
  refine ⟨_, hr, fun j hj => ⟨?_, ?_⟩, but_setCells db _ 0 w⟩
  · have := World.cell?_setCells_in db ((List.range n).map fun i => Value.int k (g i)) 0 w (fun j hj => by rw [hlen] at hj; simp [(hf j hj).1]) j (by simpa using hj)
    simpa using this
  · rw [World.frozen?_setCells]; exact (hf j hj).2

set_option maxHeartbeats 400000 in
theorem bytes5_any (a c : Option Addr) (la ca lc cc : Nat) (x : Int) (w : World) (ha : la ≤ maxLen) (hc : lc ≤ maxLen) :
    Calls Trym.prog 5 #[.slice a la ca, .int .u64 x, .slice c lc cc] w fun e w' => (∃ r, e = .returned (.bool r)) ∧ w' = w := by
  unfold maxLen at ha hc
  go_enter Trym.func5, Trym.ntmps5
  go_wp2
  all_goals (go_ret; exact ⟨⟨_, rfl⟩, rfl⟩)
set_option maxHeartbeats 400000 in
theorem bytes8_any (a c : Option Addr) (la ca lc cc : Nat) (x : Int) (w : World) (ha : la ≤ maxLen) (hc : lc ≤ maxLen) :
    Calls Trym.prog 8 #[.slice a la ca, .int .u64 x, .slice c lc cc] w fun e w' => (∃ r, e = .returned (.bool r)) ∧ w' = w := by
  unfold maxLen at ha hc
  go_enter Trym.func8, Trym.ntmps8
  go_wp2
  all_goals (go_ret; exact ⟨⟨_, rfl⟩, rfl⟩)

/-- The number is below 2^253. -/
def Low (zb : Nat → Nat) (lb : Nat) : Prop := byt zb lb 31 < 32 ∧ ∀ i, 32 ≤ i → byt zb lb i = 0

/-- What zzBelow2to253 answers: a bool; true only of such a number. -/
def LowSaid (zb : Nat → Nat) (lb : Nat) (e : Ending) : Prop := ∃ r, e = .returned (.bool r) ∧ (r = true → Low zb lb)

set_option maxHeartbeats 400000 in
theorem below_zero (a : Option Addr) (c : Nat) (w : World) :
    Calls Trym.prog 9 #[.slice a 0 c] w fun e w' => e = .returned (.bool true) ∧ w' = w := by
  go_enter Trym.func9, Trym.ntmps9
  go_wp2
  go_loop [3] (fun i => i = .int .i64 32) (fun _ => 0)
  case atStart => rfl
  case round =>
    obtain rfl := hrel
    go_wp2
    go_ret
    exact ⟨rfl, rfl⟩

set_option maxHeartbeats 400000 in
theorem below_some (b off lb c : Nat) (zb : Nat → Nat) (w : World) (hlb : lb ≤ 65536) (hc : ∀ i, i < lb → w.cell? ⟨b, off + i, none⟩ = some (.int .u8 (zb i : Int))) :
    Calls Trym.prog 9 #[.slice (some ⟨b, off, none⟩) lb c] w fun e w' => LowSaid zb lb e ∧ w' = w := by
  by_cases h32 : lb < 32
  · have hlow : Low zb lb := by
      refine ⟨?_, fun i hi => ?_⟩
      · simp [byt, show ¬ 31 < lb by omega]
      · simp [byt, show ¬ i < lb by omega]
    have HL := hide hlow
    have t0 : ¬ (32 : Int) ≤ (lb : Int) := by omega
    clear hlow hc
    go_enter Trym.func9, Trym.ntmps9
    go_wp2
    go_loop [3] (fun i => i = .int .i64 32) (fun _ => 0)
    case atStart => rfl
    case round =>
      obtain rfl := hrel
      have t1 : ¬ (32 : Int) < (lb : Int) := by omega
      go_wp2
      go_ret
      exact ⟨⟨true, rfl, fun _ => unhide HL⟩, rfl⟩
  · have HC := hide hc
    clear hc
    have t0 : (32 : Int) ≤ (lb : Int) := by omega
    go_enter Trym.func9, Trym.ntmps9
    go_wp2
    go_loop [3] (fun i => ∃ k : Nat, 32 ≤ k ∧ k ≤ lb ∧ i = .int .i64 k ∧ ∀ j, 32 ≤ j → j < k → zb j = 0) (fun i => lb - (intOf i).toNat)
    case atStart => exact ⟨32, by omega, by omega, rfl, fun j h1 h2 => by omega⟩
    case round =>
      obtain ⟨k, hk1, hk2, rfl, hz⟩ := hrel
      have HZ := hide hz
      clear hz
      by_cases hlt : k < lb
      · have hck := (unhide HC) k hlt
        by_cases hz0 : zb k = 0
        · have n0 : ((zb k : Int) != 0) = false := by simp [hz0]
          have HZ0 := hide hz0
          clear hz0
          go_wp2
          go_round
          case rel => exact ⟨k + 1, by omega, by omega, by go_num, fun j h1 h2 => by
            by_cases e : j = k
            · subst e; exact unhide HZ0
            · exact (unhide HZ) j h1 (by omega)⟩
          case measure => simp [intOf]; omega
        · have n0 : ((zb k : Int) != 0) = true := by simp [hz0]
          clear hz0
          go_wp2
          go_ret
          exact ⟨⟨false, rfl, fun h => by cases h⟩, rfl⟩
      · obtain rfl : k = lb := by omega
        have hc31 := (unhide HC) 31 (by omega)
        by_cases h31 : zb 31 < 32
        · have HL : Hid (Low zb k) := by
            refine ⟨?_, fun i hi => ?_⟩
            · simp [byt, show 31 < k by omega, h31]
            · by_cases hik : i < k
              · simp [byt, hik, (unhide HZ) i hi hik]
              · simp [byt, hik]
          have n1 : ¬ (32 : Int) ≤ (zb 31 : Int) := by omega
          go_wp2
          go_ret
          exact ⟨⟨true, rfl, fun _ => unhide HL⟩, rfl⟩
        · have n1 : (32 : Int) ≤ (zb 31 : Int) := by omega
          go_wp2
          go_ret
          exact ⟨⟨false, rfl, fun h => by cases h⟩, rfl⟩

set_option maxHeartbeats 400000 in
theorem zz_some (bb lb cb : Nat) (zb : Nat → Nat) (wd half : Nat) (db n : Nat) (f0 : Nat → Int) (w : World) (hlb : lb ≤ 65536) (hn1 : 1 ≤ n) (hn : n ≤ 65536) (hw1 : 1 ≤ wd) (hw9 : wd ≤ 9)
    (hH : half = 2 ^ (wd - 1)) (hd : Ints .i16 w db n f0) (hzb : ∀ i, zb i ≤ 255) (hne : bb ≠ db) (hby : Ints .u8 w bb lb (fun i => (zb i : Int))) :
    Calls Trym.prog 6 #[.slice (some ⟨bb, 0, none⟩) lb cb, .int .u64 (wd : Int), .slice (some ⟨db, 0, none⟩) n n] w fun e w' =>
      e = .returned (.slice (some ⟨db, 0, none⟩) n n) ∧ Ints .i16 w' db n (dig (win zb lb wd) half (n - 1)) ∧ But db w w' := by
  have HD := hide hd
  have HBY := hide hby
  have HH := hide hH
  clear hd hby hH
  go_enter Trym.func6, Trym.ntmps6
  go_wp2_with fail
  refine (sd_some bb lb cb zb wd (2 ^ wd) half db n f0 _ hlb hn1 hn hw1 hw9 rfl (unhide HH) (unhide HD) hzb hne (unhide HBY)).mono ?_
  rintro e w' ⟨rfl, h1, h2⟩
  have H1 := hide h1
  have H2 := hide h2
  clear h1 h2
  go_wp2
  go_ret
  exact ⟨rfl, unhide H1, unhide H2⟩

set_option maxHeartbeats 400000 in
theorem zz_none (ab : Option Addr) (cb : Nat) (zb : Nat → Nat) (wd half : Nat) (db n : Nat) (f0 : Nat → Int) (w : World) (hn1 : 1 ≤ n) (hn : n ≤ 65536) (hw1 : 1 ≤ wd) (hw9 : wd ≤ 9)
    (hH : half = 2 ^ (wd - 1)) (hd : Ints .i16 w db n f0) (hzb : ∀ i, zb i ≤ 255) :
    Calls Trym.prog 6 #[.slice ab 0 cb, .int .u64 (wd : Int), .slice (some ⟨db, 0, none⟩) n n] w fun e w' =>
      e = .returned (.slice (some ⟨db, 0, none⟩) n n) ∧ Ints .i16 w' db n (dig (win zb 0 wd) half (n - 1)) ∧ But db w w' := by
  have HD := hide hd
  have HH := hide hH
  clear hd hH
  go_enter Trym.func6, Trym.ntmps6
  go_wp2_with fail
  refine (sd_none ab 0 cb zb wd (2 ^ wd) half db n f0 _ (by omega) hn1 hn hw1 hw9 rfl (unhide HH) (unhide HD) hzb (Nat.le_refl 0)).mono ?_
  rintro e w' ⟨rfl, h1, h2⟩
  have H1 := hide h1
  have H2 := hide h2
  clear h1 h2
  go_wp2
  go_ret
  exact ⟨rfl, unhide H1, unhide H2⟩

set_option maxHeartbeats 400000 in
theorem zz_zero (ab ad : Option Addr) (lb cb cd wd : Nat) (w : World) (hw1 : 1 ≤ wd) (hw9 : wd ≤ 9) :
    Calls Trym.prog 6 #[.slice ab lb cb, .int .u64 (wd : Int), .slice ad 0 cd] w fun e w' => e = .returned (.slice ad 0 cd) ∧ w' = w := by
  go_enter Trym.func6, Trym.ntmps6
  go_wp2_with fail
  refine (sd_zero ab ad lb cb cd wd _ hw1 hw9).mono ?_
  rintro e w' ⟨rfl, rfl⟩
  go_wp2
  go_ret
  exact ⟨rfl, rfl⟩

end Go.Proofs.Qxb6602816aMods
