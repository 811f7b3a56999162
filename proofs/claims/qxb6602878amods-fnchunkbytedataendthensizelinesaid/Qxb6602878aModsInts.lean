/- Seat b6602878aM: zzCloneIntsPB1 and zzIntsEqPB1. -/
import Derived.Test.Qxb6602878aModsMix
import Derived.Deep.QuietTactic
import Derived.BigQuiet
namespace Go.Proofs.Qxb6602878aMods
open Go.RowKit

theorem Trym.info3 : (Trym.prog.info? 3).map (fun i => (i.zero, i.size, i.bytes)) = some (some (.int .i64 0), 1, 8) := by kernel_rfl
def by64 (F : Nat → Int) (i : Nat) : Value := .int .i64 (F i)
theorem ones_by64 (k : Nat) (F : Nat → Int) : Ones k (by64 F) := fun _ _ => rfl
/-- A slice of ints. -/
def HasI (w : World) (a : Option Addr) (l c : Nat) (e : Nat → Int) : Prop := (a = none ∧ l = 0 ∧ c = 0) ∨ ∃ x, a = some x ∧ ∀ i, i < l → w.cell? (x.add i) = some (.int .i64 (e i))
theorem HasI.next {w w' : World} {a : Option Addr} {l c : Nat} {e : Nat → Int} (h : HasI w a l c e) (hb : Below w.heap.size w w') : HasI w' a l c e := by
  rcases h with h | ⟨x, h1, h2⟩
  · exact .inl h
  · exact .inr ⟨x, h1, fun i hi => cell_later hb (h2 i hi)⟩
theorem HasI.at {w : World} {a : Option Addr} {l c : Nat} {e : Nat → Int} (h : HasI w a l c e) {k : Nat} (hk : k < l) : ∃ b off, a = some ⟨b, off, none⟩ ∧ ∀ i, i < l → w.cell? ⟨b, off + i, none⟩ = some (.int .i64 (e i)) := by
  rcases h with ⟨_, h, _⟩ | ⟨⟨b, off, spot⟩, rfl, hc⟩
  · omega
  · have hs : spot = none := by simpa [Addr.add] using World.cell?_spot (hc 0 (by omega))
    subst hs
    exact ⟨b, off, rfl, fun i hi => by rw [← Addr.add_lit]; exact hc i hi⟩

set_option maxHeartbeats 400000 in
theorem cloneI_nil (w : World) : Calls Trym.prog 15 #[.slice none 0 0] w fun e w' => e = .returned (.slice none 0 0) ∧ w' = w := by
  have heql := fun (wx : World) (a : Option Addr) (l c : Nat) => Lib.run_eql_slice_nil (P := Trym.prog) wx 32 3 a l c 0 0 Trym.underlying32
  go_enter Trym.func15, Trym.ntmps15
  go_wp2
  go_ret
  exact ⟨rfl, rfl⟩

set_option maxHeartbeats 400000 in
theorem cloneI_some (x : Addr) (l c : Nat) (p : Nat → Int) (w : World) (hl : l ≤ 1048576) (hc : ∀ i, i < l → w.cell? (x.add i) = some (.int .i64 (p i))) :
    Calls Trym.prog 15 #[.slice (some x) l c] w fun e w' => ∃ g, e = .returned (.slice (some ⟨g, 0, none⟩) l l) ∧ NewB w w' g l (by64 p) := by
  have heql := fun (wx : World) (a : Option Addr) (l c : Nat) => Lib.run_eql_slice_nil (P := Trym.prog) wx 32 3 a l c 0 0 Trym.underlying32
  have HC := hide hc
  clear hc
  go_enter Trym.func15, Trym.ntmps15
  go_wp2_with (at_make; refine wpList_make_ints rfl _ _ 32 rfl 3 .i64 8 Trym.underlying32 Trym.info3 .i64 .i64 l rfl rfl (by omega) (by omega) ?_; intro w1 g hn; obtain ⟨w2, hr, hb2, hbut2⟩ := run_copy_blk (P := Trym.prog) w1 32 3 3 Trym.underlying32 Trym.size1_3 g l _ hn.blk (some ⟨g, 0, none⟩) (some x) 0 l l l c l (by64 p) (Nat.min_self l).symm (fun _ => ⟨rfl, x, rfl, fun j hj => cell_later hn.below ((unhide HC) j hj)⟩) (by omega) (ones_by64 _ _); have HB := hide (hb2.congr (v' := by64 p) (fun j hj => put_all l _ _ j hj)); have HBUT := hide hbut2; have HN := hide hn; clear hn hb2 hbut2)
  go_ret
  refine ⟨g, rfl, (unhide HN).at_, (unhide HN).below.trans ((unhide HBUT).below _ (by rw [(unhide HN).at_]; exact Nat.le_refl _)), (unhide HBUT).size.trans (unhide HN).size, unhide HB⟩

/-- What the clone is. -/
def IsClone (w : World) (a : Option Addr) (l : Nat) (e : Nat → Int) (v : Value) (w' : World) : Prop := ∃ a', v = .slice a' l l ∧ a'.isNone = a.isNone ∧ HasI w' a' l l e ∧ Below w.heap.size w w' ∧ (a' = none ∨ ∃ g, a' = some ⟨g, 0, none⟩ ∧ w.heap.size ≤ g)
theorem cloneI_any (a : Option Addr) (l c : Nat) (e : Nat → Int) (w : World) (hl : l ≤ 1048576) (hh : HasI w a l c e) :
    Calls Trym.prog 15 #[.slice a l c] w fun r w' => ∃ v, r = .returned v ∧ IsClone w a l e v w' := by
  rcases hh with ⟨rfl, rfl, rfl⟩ | ⟨x, rfl, hc⟩
  · refine (cloneI_nil w).mono fun r w' h => ?_
    obtain ⟨rfl, rfl⟩ := h
    exact ⟨_, rfl, none, rfl, rfl, .inl ⟨rfl, rfl, rfl⟩, Below.refl _ _, .inl rfl⟩
  · refine (cloneI_some x l c e w hl hc).mono fun r w' h => ?_
    obtain ⟨g, rfl, hn⟩ := h
    exact ⟨_, rfl, some ⟨g, 0, none⟩, rfl, rfl, .inr ⟨_, rfl, fun i hi => by rw [Addr.add_lit]; exact hn.blk.cells0 i hi⟩, hn.below, .inr ⟨g, rfl, Nat.le_of_eq hn.at_.symm⟩⟩

theorem run_neq_bool_same (b : Bool) (w : World) : (binOp .neq 4 (.bool b) (.bool b)).run Trym.prog w = .ok (.bool false) w := by cases b <;> kernel_rfl

set_option maxHeartbeats 1000000 in
/-- zzIntsEqPB1 of two slices that hold the same. -/
theorem intsEq_same (a b : Option Addr) (l : Nat) (e : Nat → Int) (w : World) (hl : l ≤ 1048576) (hn : a.isNone = b.isNone) (ha : HasI w a l l e) (hb : HasI w b l l e) :
    Calls Trym.prog 27 #[.slice a l l, .slice b l l] w fun r w' => r = .returned (.bool true) ∧ ∃ q, w' = w.drewN q := by
  have heql := fun (wx : World) (a : Option Addr) (l c : Nat) => Lib.run_eql_slice_nil (P := Trym.prog) wx 32 3 a l c 0 0 Trym.underlying32
  have HA := hide ha
  have HB := hide hb
  clear ha hb
  obtain ⟨nb, hnb⟩ : ∃ nb, b.isNone = nb := ⟨_, rfl⟩
  rw [hnb] at hn
  cases nb
  all_goals
    go_enter Trym.func27, Trym.ntmps27
    go_wp2
    go_loopw [5] (fun i wr => ∃ (k q : Nat), k ≤ l ∧ i = .int .i64 k ∧ wr = w.drewN q) (fun i _ => l - (intOf i).toNat)
    case atStart => exact ⟨0, 0, Nat.zero_le _, rfl, rfl⟩
    case round =>
      obtain ⟨k, q, hk, rfl, hw⟩ := hrel
      by_cases hlt : k < l
      · obtain ⟨b1, o1, rfl, h1⟩ := (unhide HA).at hlt
        obtain ⟨b2, o2, rfl, h2⟩ := (unhide HB).at hlt
        have c1 : wr.cell? ⟨b1, o1 + k, none⟩ = some (.int .i64 (e k)) := by rw [hw]; exact h1 k hlt
        have c2 : wr.cell? ⟨b2, o2 + k, none⟩ = some (.int .i64 (e k)) := by rw [hw]; exact h2 k hlt
        have HW := hide hw
        clear h1 h2 hw
        go_wp2
        go_quiet (fail)
        go_wp2
        go_roundw
        case rel => exact ⟨k + 1, _, by omega, by go_num, by rw [unhide HW, World.drewN_drewN]⟩
        case measure => simp [intOf]; omega
      · have HW := hide hw
        clear hw
        go_wp2
        go_ret
        exact ⟨rfl, q, unhide HW⟩
end Go.Proofs.Qxb6602878aMods
