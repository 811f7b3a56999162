/- Seat b6601051aM: ZZNewPlacer, ZZRecord, the getters, zzEqual. -/
import Derived.Test.Qxb6601051aModsRecord
import Derived.Deep.QuietTactic
import Derived.BigQuiet
import Derived.WalkSmall
namespace Go.Proofs.Qxb6601051aMods
open Go.RowKit

/-- A new placer. -/
def NewP (w : World) (r : Ending) (w' : World) : Prop :=
  ∃ gP bU bS, r = .returned (.pointer (some ⟨gP, 0, none⟩)) ∧ Plc w' gP bU bS ∧ MapIs w' bU (fun _ => none) 0 ∧ MapIs w' bS (fun _ => none) 0 ∧ Below w.heap.size w w' ∧ w.heap.size ≤ bU ∧ w.heap.size ≤ bS ∧ bU ≠ bS

theorem mapIs_alloc {w : World} {b n : Nat} {f : List UInt8 → Option Value} (h : MapIs w b f n) (o : Obj) : MapIs (w.alloc o) b f n := h.of_block (Below.heap_alloc w o b h.lt)

theorem sz_alloc (w : World) (o : Obj) : (w.alloc o).heap.size = w.heap.size + 1 := by simp
theorem newP_cell (w : World) (o : Obj) (c : Array Value) (t : TypeId) (i : Nat) : ((((w.alloc o).alloc (.map #[] 0)).alloc (.map #[] 0)).alloc (.cells c t)).cell? ⟨w.heap.size + 1 + 1 + 1, i, none⟩ = c[i]? := by
  have h := heap_alloc_new (((w.alloc o).alloc (.map #[] 0)).alloc (.map #[] 0)) (.cells c t)
  rw [sz_alloc, sz_alloc, sz_alloc] at h
  exact cell_of_row _ _ i _ _ _ h
theorem newP_m1 (w : World) (o p : Obj) : MapIs ((((w.alloc o).alloc (.map #[] 0)).alloc (.map #[] 0)).alloc p) (w.heap.size + 1) (fun _ => none) 0 := by
  have h := mapIs_made (w.alloc o)
  rw [sz_alloc] at h
  exact mapIs_alloc (mapIs_alloc h _) _
theorem newP_m2 (w : World) (o p : Obj) : MapIs ((((w.alloc o).alloc (.map #[] 0)).alloc (.map #[] 0)).alloc p) (w.heap.size + 1 + 1) (fun _ => none) 0 := by
  have h := mapIs_made ((w.alloc o).alloc (.map #[] 0))
  rw [sz_alloc, sz_alloc] at h
  exact mapIs_alloc h _

set_option maxHeartbeats 400000 in
theorem newPlacer_any (s t : ByteArray) (w : World) : Calls Trym.prog 10 #[.string s, .string t] w fun r w' => NewP w r w' := by
  have hmm := @run_makeMap Trym.prog
  go_enter Trym.func10, Trym.ntmps10
  go_wp2
  go_ret
  refine ⟨w.heap.size + 1 + 1 + 1, w.heap.size + 1, w.heap.size + 1 + 1, rfl, ⟨?_, ?_⟩, ?_, ?_, ?_, by omega, by omega, by omega⟩
  · exact newP_cell w _ _ _ 2
  · exact newP_cell w _ _ _ 3
  · exact newP_m1 w _ _
  · exact newP_m2 w _ _
  · exact ((((Below.refl _ _).alloc (Nat.le_refl _) _).alloc (by simp) _).alloc (by simp; omega) _).alloc (by simp; omega) _

set_option maxHeartbeats 400000 in
theorem lenUsed_any (gP bU bS n : Nat) (f : List UInt8 → Option Value) (w : World) (hP : Plc w gP bU bS) (hU : MapIs w bU f n) :
    Calls Trym.prog 14 #[.pointer (some ⟨gP, 0, none⟩)] w fun r w' => r = .returned (.int .i64 (n : Int)) ∧ w' = w := by
  have p2 := hP.c2
  have hl := hU.len Trym.underlying38 3
  clear hP hU
  go_enter Trym.func14, Trym.ntmps14
  go_wp2
  go_ret
  exact ⟨rfl, rfl⟩
set_option maxHeartbeats 400000 in
theorem lenUse_any (gP bU bS n : Nat) (f : List UInt8 → Option Value) (w : World) (hP : Plc w gP bU bS) (hS : MapIs w bS f n) :
    Calls Trym.prog 20 #[.pointer (some ⟨gP, 0, none⟩)] w fun r w' => r = .returned (.int .i64 (n : Int)) ∧ w' = w := by
  have p3 := hP.c3
  have hl := hS.len Trym.underlying39 3
  clear hP hS
  go_enter Trym.func20, Trym.ntmps20
  go_wp2
  go_ret
  exact ⟨rfl, rfl⟩
set_option maxHeartbeats 400000 in
theorem used_any (gP bU bS n : Nat) (f : List UInt8 → Option Value) (s : ByteArray) (a : Option Addr) (l : Nat) (w : World) (hs : s.size ≤ maxLen) (hP : Plc w gP bU bS) (hU : MapIs w bU f n) (hv : (f (key s)).getD (.slice none 0 0) = .slice a l l) :
    Calls Trym.prog 17 #[.pointer (some ⟨gP, 0, none⟩), .string s] w fun r w' => r = .returned (.slice a l l) ∧ w' = w := by
  have p2 := hP.c2
  have hl := hU.look Trym.underlying38 (zero22 w) hs
  rw [hv] at hl
  clear hP hU hv
  go_enter Trym.func17, Trym.ntmps17
  go_wp2
  go_ret
  exact ⟨rfl, rfl⟩
set_option maxHeartbeats 400000 in
theorem use_any (gP bU bS n : Nat) (f : List UInt8 → Option Value) (s : ByteArray) (x : Int) (w : World) (hs : s.size ≤ maxLen) (hP : Plc w gP bU bS) (hS : MapIs w bS f n) (hv : (f (key s)).getD (.int .i64 0) = .int .i64 x) :
    Calls Trym.prog 15 #[.pointer (some ⟨gP, 0, none⟩), .string s] w fun r w' => r = .returned (.int .i64 x) ∧ w' = w := by
  have p3 := hP.c3
  have hl := hS.look Trym.underlying39 (zero3 w) hs
  rw [hv] at hl
  clear hP hS hv
  go_enter Trym.func15, Trym.ntmps15
  go_wp2
  go_ret
  exact ⟨rfl, rfl⟩
set_option maxHeartbeats 400000 in
theorem hasUse_any (gP bU bS n : Nat) (f : List UInt8 → Option Value) (s : ByteArray) (w : World) (hs : s.size ≤ maxLen) (hP : Plc w gP bU bS) (hS : MapIs w bS f n) (hv : (f (key s)).isSome = true) :
    Calls Trym.prog 19 #[.pointer (some ⟨gP, 0, none⟩), .string s] w fun r w' => r = .returned (.bool true) ∧ w' = w := by
  have p3 := hP.c3
  have hl := hS.look_ok Trym.underlying39 (zero3 w) hs
  rw [hv] at hl
  obtain ⟨v, hv2⟩ : ∃ v, (f (key s)).getD (.int .i64 0) = v := ⟨_, rfl⟩
  rw [hv2] at hl
  clear hP hS hv hv2
  go_enter Trym.func19, Trym.ntmps19
  go_wp2
  go_ret
  exact ⟨rfl, rfl⟩

set_option maxHeartbeats 400000 in
/-- zzEqual of two slices that hold the same strings. -/
theorem equal_same (a b : Option Addr) (l : Nat) (e : Nat → ByteArray) (w : World) (hl : l ≤ 1048576) (ha : Has w a l l e) (hb : Has w b l l e) :
    Calls Trym.prog 18 #[.slice a l l, .slice b l l] w fun r w' => r = .returned (.bool true) ∧ ∃ q, w' = w.drewN q := by
  have HA := hide ha
  have HB := hide hb
  clear ha hb
  go_enter Trym.func18, Trym.ntmps18
  go_wp2
  go_loopw [5] (fun i wr => ∃ (k q : Nat), k ≤ l ∧ i = .int .i64 k ∧ wr = w.drewN q) (fun i _ => l - (intOf i).toNat)
  case atStart => exact ⟨0, 0, Nat.zero_le _, rfl, rfl⟩
  case round =>
    obtain ⟨k, q, hk, rfl, hw⟩ := hrel
    by_cases hlt : k < l
    · obtain ⟨b1, o1, rfl, h1⟩ := (unhide HA).at hlt
      obtain ⟨b2, o2, rfl, h2⟩ := (unhide HB).at hlt
      have c1 : wr.cell? ⟨b1, o1 + k, none⟩ = some (.string (e k)) := by rw [hw]; exact h1 k hlt
      have c2 : wr.cell? ⟨b2, o2 + k, none⟩ = some (.string (e k)) := by rw [hw]; exact h2 k hlt
      have HW := hide hw
      clear h1 h2 hw
      go_wp2
      go_quiet (fail)
      go_wp2
      go_roundw
      case rel => exact ⟨k + 1, _, by omega, by go_num, by rw [unhide HW, World.drewN_drewN]⟩
      case measure => simp [intOf]; omega
    · have HW := hide hw
      clear hw
      go_wp2
      go_ret
      exact ⟨rfl, q, unhide HW⟩
end Go.Proofs.Qxb6601051aMods
