/- Seat b6602878aM: the law FnChunkByteDataEndThenSizeLine. -/
import Derived.Test.Qxb6602878aModsSmall
import Derived.Test.Qxb6602878aModsSzWalk
namespace Go.Proofs.Qxb6602878aMods
open Go.RowKit

/-- What zzBytes tells. -/
def TellsB (y : Bool) (hl l : Nat) : Prop := y = true → hl ≤ 1048576 ∧ l ≤ 1048576
theorem tellsB {hl l : Nat} (h : TellsB true hl l) : hl ≤ 1048576 ∧ l ≤ 1048576 := h rfl
def BytesSaid (hl l : Nat) (w : World) (r : Ending) (w' : World) : Prop := ∃ y, r = .returned (.bool y) ∧ TellsB y hl l ∧ Below w.heap.size w w'
theorem bytesSaid_no {hl l : Nat} {w w' : World} (h : Below w.heap.size w w') : BytesSaid hl l w (.returned (.bool false)) w' := ⟨false, rfl, (fun h => by cases h), h⟩
theorem bytesSaid_yes {hl l : Nat} {w w' : World} (h : Below w.heap.size w w') (h1 : hl ≤ 1048576) (h2 : l ≤ 1048576) : BytesSaid hl l w (.returned (.bool true)) w' := ⟨true, rfl, fun _ => ⟨h1, h2⟩, h⟩

set_option maxHeartbeats 2000000 in
set_option maxRecDepth 8000 in
theorem bytes21_any (v : Nat → Value) (ha : Option Addr) (hl hc : Nat) (a : Option Addr) (l c : Nat) (w : World) (hv : v 87 = .slice ha hl hc) (h1 : hl ≤ maxLen) (h2 : l ≤ maxLen) :
    Calls Trym.prog 21 #[.agg (arr 90 v), .slice a l c] w (BytesSaid hl l w) := by
  unfold maxLen at h1 h2
  have HV := hide hv
  clear hv
  by_cases k1 : hl ≤ 1048576
  · by_cases k2 : l ≤ 1048576
    · go_enter Trym.func21, Trym.ntmps21
      go_wp2_with (first
        | (refine wpList_box rfl 34 _ rfl 90 v rfl ?_; intro w1 g1 hn; have c87 : w1.cell? ⟨g1, 87, none⟩ = some (.slice ha hl hc) := (hn.blk.cell 87 (by omega)).trans (congrArg some (unhide HV)); have H1 := hide hn; clear hn))
      all_goals (go_ret; first | exact bytesSaid_no (unhide H1).below | exact bytesSaid_yes (unhide H1).below k1 k2)
    · have k2' : (1048576 : Int) < (l : Int) := by omega
      go_enter Trym.func21, Trym.ntmps21
      go_wp2_with (first
        | (refine wpList_box rfl 34 _ rfl 90 v rfl ?_; intro w1 g1 hn; have c87 : w1.cell? ⟨g1, 87, none⟩ = some (.slice ha hl hc) := (hn.blk.cell 87 (by omega)).trans (congrArg some (unhide HV)); have H1 := hide hn; clear hn))
      all_goals (go_ret; exact bytesSaid_no (unhide H1).below)
  · have k1' : (1048576 : Int) < (hl : Int) := by omega
    go_enter Trym.func21, Trym.ntmps21
    go_wp2_with (first
      | (refine wpList_box rfl 34 _ rfl 90 v rfl ?_; intro w1 g1 hn; have c87 : w1.cell? ⟨g1, 87, none⟩ = some (.slice ha hl hc) := (hn.blk.cell 87 (by omega)).trans (congrArg some (unhide HV)); have H1 := hide hn; clear hn))
    all_goals (go_ret; exact bytesSaid_no (unhide H1).below)
end Go.Proofs.Qxb6602878aMods
