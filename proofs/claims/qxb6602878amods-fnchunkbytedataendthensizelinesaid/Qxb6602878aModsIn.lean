/- Seat b6602878aM: zzInPB1. -/
import Derived.Test.Qxb6602878aModsInts
namespace Go.Proofs.Qxb6602878aMods
open Go.RowKit

theorem at_of {ops lit : Array Oper} (h : ops = lit) {k : Nat} {o : Oper} {d : Option Tmp} {op : Op} {gd : Option (Nat × Bool)} (h1 : lit[k]? = some o) (h2 : o.dst = d) (h3 : o.op = op) (h4 : o.guard = gd) : At ops k d op gd := by
  subst h
  exact ⟨o, h1, h2, h3, h4⟩
theorem wnt {ops lit : Array Oper} (h : ops = lit) {tmps : Array Value} {j : Nat} {b : Bool} (hy : yielded lit tmps j = some b) : Wanted ops tmps (some (j, b)) := by
  subst h
  exact hy
theorem wp_region_mxo {P : Program} {Q : Exit → Act → World → Prop} {id : Nat} {ops : Array Oper} {a : Act} {w : World} (ks : List (Bool × Nat)) (S : World → Prop) (hm : P.follows .mixedOrders = true) (hQ : ∀ c a d v w, Q (.panic c) (Act.put a d v) w → Q (.panic c) a w)
    (hB : (Region.noSelect ops && decide (ks.length = ops.size) && Region.mxB .any ops ks (Array.replicate ops.size false)) = true) (hS : S w.drew)
    (h : ∀ ops', ops' = ops → wpMx P ops' Q S ks a w.drew) : (Code.region id ops true).wp P Q a w := wp_region_mx ks S hm hQ hB hS (h ops rfl)

/-- v with x at k. -/
def setV (v : Nat → Value) (k : Nat) (x : Value) (j : Nat) : Value := if j = k then x else v j
theorem one_setV {n k : Nat} {v : Nat → Value} {x : Value} (h : One n v) (hx : x.oneCell' = true ∧ x.cells = arr 1 (fun _ => x)) : One n (setV v k x) := fun j hj => by
  unfold setV
  split
  · exact hx
  · exact h j hj
theorem one_slice (a : Option Addr) (l c : Nat) : (Value.slice a l c).oneCell' = true ∧ (Value.slice a l c).cells = arr 1 (fun _ => .slice a l c) := ⟨rfl, slice_cells a l c⟩

theorem arr_sh_setV (n off k : Nat) (v : Nat → Value) (x : Value) (h : k < off ∨ off + n ≤ k) : arr n (sh off (setV v k x)) = arr n (sh off v) :=
  arr_congr n _ _ (fun j hj => by unfold sh setV; rw [if_neg (by omega)])
theorem build39s (v : Nat → Value) (h1 : One 90 v) (a2 : Option Addr) (l : Nat) (w : World) :
    (Instr.build 39 [(0, v 0), (1, v 1), (2, v 2), (3, v 3), (4, .agg (arr 64 (sh 4 v))), (5, .agg (arr 9 (sh 68 v))), (6, v 77), (7, v 78), (8, v 79), (9, v 80), (10, v 81), (11, v 82), (12, v 83), (13, v 84), (14, v 85), (15, v 86), (16, .slice a2 l l), (17, v 88), (18, v 89)].toArray).run Trym.prog w = .ok (.agg (arr 90 (setV v 87 (.slice a2 l l)))) w := by
  have h := build39v (setV v 87 (.slice a2 l l)) (one_setV h1 (one_slice _ _ _)) w
  rw [arr_sh_setV 64 4 87 v _ (by omega), arr_sh_setV 9 68 87 v _ (by omega)] at h
  exact h

set_option maxHeartbeats 8000000 in
set_option maxRecDepth 20000 in
/-- zzInPB1: the mirror, with a copy of the heads. -/
theorem in_any (g : Nat) (v : Nat → Value) (a : Option Addr) (l c : Nat) (e : Nat → Int) (w : World) (h1 : One 90 v) (hb : Blk w g 90 v) (hv : v 87 = .slice a l c) (hl : l ≤ 1048576) (hh : HasI w a l c e) :
    Calls Trym.prog 16 #[.pointer (some ⟨g, 0, none⟩)] w fun r w' => ∃ a2, r = .returned (.agg (arr 90 (setV v 87 (.slice a2 l l)))) ∧ a2.isNone = a.isNone ∧ HasI w' a2 l l e ∧ Below w.heap.size w w' := by
  have HB := hide hb
  have HO := hide h1
  have HV := hide hv
  have HH := hide hh
  clear hb h1 hv hh
  go_enter Trym.func16, Trym.ntmps16
  go_wp2_with (first
    | (refine wpList_new rfl 39 rfl 90 Trym.zero39 ?_; intro w1 g1 v1 h1; have H1 := hide h1; clear h1))
  refine wp_region_mxo [(true, 0), (true, 1), (true, 2), (true, 3), (true, 4), (true, 5), (true, 6), (true, 7), (true, 8), (true, 9), (true, 10), (true, 11), (true, 12), (true, 13), (true, 14), (true, 15), (true, 16), (true, 17), (true, 18), (true, 19), (true, 20), (true, 21), (true, 22), (true, 23), (true, 24), (true, 25), (true, 26), (true, 27), (true, 28), (true, 29), (true, 30), (true, 31), (true, 32), (true, 33), (true, 34), (true, 35), (true, 36), (true, 37), (true, 38), (true, 39), (true, 40), (true, 41), (true, 42), (true, 43), (true, 44), (true, 45), (true, 46), (true, 47), (true, 48), (true, 49), (true, 50), (true, 51), (true, 52), (true, 53), (true, 54), (true, 55), (true, 56), (true, 57), (true, 58), (true, 59), (true, 60), (true, 61), (true, 62), (true, 63), (true, 64), (true, 65), (true, 66), (true, 67), (true, 69), (true, 70), (true, 71), (true, 72), (true, 73), (true, 74), (true, 75), (true, 76), (false, 68), (true, 77), (false, 78)] (fun w' => Blk w' g 90 v) follows (fun c a d v w h => by cases d <;> exact h) (by kernel_rfl) ((unhide H1).old (unhide HB)) ?_
  intro ops hops
  simp only [Act.put, List.setIfInBounds_toArray, List.set_cons_zero, List.set_cons_succ]
  refine mx_move (d := some 3) (at_of hops rfl rfl rfl rfl) trivial (.pointer (some ⟨g, 0, none⟩)) rfl ?_
  simp only [Act.put, List.setIfInBounds_toArray, List.set_cons_zero, List.set_cons_succ]
  refine mx_nilc (d := some 4) (at_of hops rfl rfl rfl rfl) trivial g 0 rfl ?_
  simp only [Act.put, List.setIfInBounds_toArray, List.set_cons_zero, List.set_cons_succ]
  refine mx_field (d := some 5) (at_of hops rfl rfl rfl rfl) trivial Trym.field34_0 g 0 rfl 0 rfl ?_
  simp only [Act.put, List.setIfInBounds_toArray, List.set_cons_zero, List.set_cons_succ]
  refine mx_load (d := some 6) (at_of hops rfl rfl rfl rfl) trivial Trym.single4 g 0 rfl (v 0) (fun w hw => hw.cell 0 (by omega)) ?_
  simp only [Act.put, List.setIfInBounds_toArray, List.set_cons_zero, List.set_cons_succ]
  refine mx_move (d := some 7) (at_of hops rfl rfl rfl rfl) trivial (.pointer (some ⟨g, 0, none⟩)) rfl ?_
  simp only [Act.put, List.setIfInBounds_toArray, List.set_cons_zero, List.set_cons_succ]
  refine mx_nilc (d := some 8) (at_of hops rfl rfl rfl rfl) trivial g 0 rfl ?_
  simp only [Act.put, List.setIfInBounds_toArray, List.set_cons_zero, List.set_cons_succ]
  refine mx_field (d := some 9) (at_of hops rfl rfl rfl rfl) trivial Trym.field34_1 g 0 rfl 1 rfl ?_
  simp only [Act.put, List.setIfInBounds_toArray, List.set_cons_zero, List.set_cons_succ]
  refine mx_load (d := some 10) (at_of hops rfl rfl rfl rfl) trivial Trym.single4 g 1 rfl (v 1) (fun w hw => hw.cell 1 (by omega)) ?_
  simp only [Act.put, List.setIfInBounds_toArray, List.set_cons_zero, List.set_cons_succ]
  refine mx_move (d := some 11) (at_of hops rfl rfl rfl rfl) trivial (.pointer (some ⟨g, 0, none⟩)) rfl ?_
  simp only [Act.put, List.setIfInBounds_toArray, List.set_cons_zero, List.set_cons_succ]
  refine mx_nilc (d := some 12) (at_of hops rfl rfl rfl rfl) trivial g 0 rfl ?_
  simp only [Act.put, List.setIfInBounds_toArray, List.set_cons_zero, List.set_cons_succ]
  refine mx_field (d := some 13) (at_of hops rfl rfl rfl rfl) trivial Trym.field34_2 g 0 rfl 2 rfl ?_
  simp only [Act.put, List.setIfInBounds_toArray, List.set_cons_zero, List.set_cons_succ]
  refine mx_load (d := some 14) (at_of hops rfl rfl rfl rfl) trivial Trym.single3 g 2 rfl (v 2) (fun w hw => hw.cell 2 (by omega)) ?_
  simp only [Act.put, List.setIfInBounds_toArray, List.set_cons_zero, List.set_cons_succ]
  refine mx_move (d := some 15) (at_of hops rfl rfl rfl rfl) trivial (.pointer (some ⟨g, 0, none⟩)) rfl ?_
  simp only [Act.put, List.setIfInBounds_toArray, List.set_cons_zero, List.set_cons_succ]
  refine mx_nilc (d := some 16) (at_of hops rfl rfl rfl rfl) trivial g 0 rfl ?_
  simp only [Act.put, List.setIfInBounds_toArray, List.set_cons_zero, List.set_cons_succ]
  refine mx_field (d := some 17) (at_of hops rfl rfl rfl rfl) trivial Trym.field34_3 g 0 rfl 3 rfl ?_
  simp only [Act.put, List.setIfInBounds_toArray, List.set_cons_zero, List.set_cons_succ]
  refine mx_load (d := some 18) (at_of hops rfl rfl rfl rfl) trivial Trym.single3 g 3 rfl (v 3) (fun w hw => hw.cell 3 (by omega)) ?_
  simp only [Act.put, List.setIfInBounds_toArray, List.set_cons_zero, List.set_cons_succ]
  refine mx_move (d := some 19) (at_of hops rfl rfl rfl rfl) trivial (.pointer (some ⟨g, 0, none⟩)) rfl ?_
  simp only [Act.put, List.setIfInBounds_toArray, List.set_cons_zero, List.set_cons_succ]
  refine mx_nilc (d := some 20) (at_of hops rfl rfl rfl rfl) trivial g 0 rfl ?_
  simp only [Act.put, List.setIfInBounds_toArray, List.set_cons_zero, List.set_cons_succ]
  refine mx_field (d := some 21) (at_of hops rfl rfl rfl rfl) trivial Trym.field34_4 g 0 rfl 4 rfl ?_
  simp only [Act.put, List.setIfInBounds_toArray, List.set_cons_zero, List.set_cons_succ]
  refine mx_load_agg (d := some 22) (at_of hops rfl rfl rfl rfl) trivial Trym.agg22 g 4 rfl (sh 4 v) (fun w hw => hw.sh 4 64 (by omega)) ?_
  simp only [Act.put, List.setIfInBounds_toArray, List.set_cons_zero, List.set_cons_succ]
  refine mx_move (d := some 23) (at_of hops rfl rfl rfl rfl) trivial (.pointer (some ⟨g, 0, none⟩)) rfl ?_
  simp only [Act.put, List.setIfInBounds_toArray, List.set_cons_zero, List.set_cons_succ]
  refine mx_nilc (d := some 24) (at_of hops rfl rfl rfl rfl) trivial g 0 rfl ?_
  simp only [Act.put, List.setIfInBounds_toArray, List.set_cons_zero, List.set_cons_succ]
  refine mx_field (d := some 25) (at_of hops rfl rfl rfl rfl) trivial Trym.field34_5 g 0 rfl 68 rfl ?_
  simp only [Act.put, List.setIfInBounds_toArray, List.set_cons_zero, List.set_cons_succ]
  refine mx_load_agg (d := some 26) (at_of hops rfl rfl rfl rfl) trivial Trym.agg23 g 68 rfl (sh 68 v) (fun w hw => hw.sh 68 9 (by omega)) ?_
  simp only [Act.put, List.setIfInBounds_toArray, List.set_cons_zero, List.set_cons_succ]
  refine mx_move (d := some 27) (at_of hops rfl rfl rfl rfl) trivial (.pointer (some ⟨g, 0, none⟩)) rfl ?_
  simp only [Act.put, List.setIfInBounds_toArray, List.set_cons_zero, List.set_cons_succ]
  refine mx_nilc (d := some 28) (at_of hops rfl rfl rfl rfl) trivial g 0 rfl ?_
  simp only [Act.put, List.setIfInBounds_toArray, List.set_cons_zero, List.set_cons_succ]
  refine mx_field (d := some 29) (at_of hops rfl rfl rfl rfl) trivial Trym.field34_6 g 0 rfl 77 rfl ?_
  simp only [Act.put, List.setIfInBounds_toArray, List.set_cons_zero, List.set_cons_succ]
  refine mx_load (d := some 30) (at_of hops rfl rfl rfl rfl) trivial Trym.single3 g 77 rfl (v 77) (fun w hw => hw.cell 77 (by omega)) ?_
  simp only [Act.put, List.setIfInBounds_toArray, List.set_cons_zero, List.set_cons_succ]
  refine mx_move (d := some 31) (at_of hops rfl rfl rfl rfl) trivial (.pointer (some ⟨g, 0, none⟩)) rfl ?_
  simp only [Act.put, List.setIfInBounds_toArray, List.set_cons_zero, List.set_cons_succ]
  refine mx_nilc (d := some 32) (at_of hops rfl rfl rfl rfl) trivial g 0 rfl ?_
  simp only [Act.put, List.setIfInBounds_toArray, List.set_cons_zero, List.set_cons_succ]
  refine mx_field (d := some 33) (at_of hops rfl rfl rfl rfl) trivial Trym.field34_7 g 0 rfl 78 rfl ?_
  simp only [Act.put, List.setIfInBounds_toArray, List.set_cons_zero, List.set_cons_succ]
  refine mx_load (d := some 34) (at_of hops rfl rfl rfl rfl) trivial Trym.single4 g 78 rfl (v 78) (fun w hw => hw.cell 78 (by omega)) ?_
  simp only [Act.put, List.setIfInBounds_toArray, List.set_cons_zero, List.set_cons_succ]
  refine mx_move (d := some 35) (at_of hops rfl rfl rfl rfl) trivial (.pointer (some ⟨g, 0, none⟩)) rfl ?_
  simp only [Act.put, List.setIfInBounds_toArray, List.set_cons_zero, List.set_cons_succ]
  refine mx_nilc (d := some 36) (at_of hops rfl rfl rfl rfl) trivial g 0 rfl ?_
  simp only [Act.put, List.setIfInBounds_toArray, List.set_cons_zero, List.set_cons_succ]
  refine mx_field (d := some 37) (at_of hops rfl rfl rfl rfl) trivial Trym.field34_8 g 0 rfl 79 rfl ?_
  simp only [Act.put, List.setIfInBounds_toArray, List.set_cons_zero, List.set_cons_succ]
  refine mx_load (d := some 38) (at_of hops rfl rfl rfl rfl) trivial Trym.single4 g 79 rfl (v 79) (fun w hw => hw.cell 79 (by omega)) ?_
  simp only [Act.put, List.setIfInBounds_toArray, List.set_cons_zero, List.set_cons_succ]
  refine mx_move (d := some 39) (at_of hops rfl rfl rfl rfl) trivial (.pointer (some ⟨g, 0, none⟩)) rfl ?_
  simp only [Act.put, List.setIfInBounds_toArray, List.set_cons_zero, List.set_cons_succ]
  refine mx_nilc (d := some 40) (at_of hops rfl rfl rfl rfl) trivial g 0 rfl ?_
  simp only [Act.put, List.setIfInBounds_toArray, List.set_cons_zero, List.set_cons_succ]
  refine mx_field (d := some 41) (at_of hops rfl rfl rfl rfl) trivial Trym.field34_9 g 0 rfl 80 rfl ?_
  simp only [Act.put, List.setIfInBounds_toArray, List.set_cons_zero, List.set_cons_succ]
  refine mx_load (d := some 42) (at_of hops rfl rfl rfl rfl) trivial Trym.single3 g 80 rfl (v 80) (fun w hw => hw.cell 80 (by omega)) ?_
  simp only [Act.put, List.setIfInBounds_toArray, List.set_cons_zero, List.set_cons_succ]
  refine mx_move (d := some 43) (at_of hops rfl rfl rfl rfl) trivial (.pointer (some ⟨g, 0, none⟩)) rfl ?_
  simp only [Act.put, List.setIfInBounds_toArray, List.set_cons_zero, List.set_cons_succ]
  refine mx_nilc (d := some 44) (at_of hops rfl rfl rfl rfl) trivial g 0 rfl ?_
  simp only [Act.put, List.setIfInBounds_toArray, List.set_cons_zero, List.set_cons_succ]
  refine mx_field (d := some 45) (at_of hops rfl rfl rfl rfl) trivial Trym.field34_10 g 0 rfl 81 rfl ?_
  simp only [Act.put, List.setIfInBounds_toArray, List.set_cons_zero, List.set_cons_succ]
  refine mx_load (d := some 46) (at_of hops rfl rfl rfl rfl) trivial Trym.single31 g 81 rfl (v 81) (fun w hw => hw.cell 81 (by omega)) ?_
  simp only [Act.put, List.setIfInBounds_toArray, List.set_cons_zero, List.set_cons_succ]
  refine mx_move (d := some 47) (at_of hops rfl rfl rfl rfl) trivial (.pointer (some ⟨g, 0, none⟩)) rfl ?_
  simp only [Act.put, List.setIfInBounds_toArray, List.set_cons_zero, List.set_cons_succ]
  refine mx_nilc (d := some 48) (at_of hops rfl rfl rfl rfl) trivial g 0 rfl ?_
  simp only [Act.put, List.setIfInBounds_toArray, List.set_cons_zero, List.set_cons_succ]
  refine mx_field (d := some 49) (at_of hops rfl rfl rfl rfl) trivial Trym.field34_11 g 0 rfl 82 rfl ?_
  simp only [Act.put, List.setIfInBounds_toArray, List.set_cons_zero, List.set_cons_succ]
  refine mx_load (d := some 50) (at_of hops rfl rfl rfl rfl) trivial Trym.single3 g 82 rfl (v 82) (fun w hw => hw.cell 82 (by omega)) ?_
  simp only [Act.put, List.setIfInBounds_toArray, List.set_cons_zero, List.set_cons_succ]
  refine mx_move (d := some 51) (at_of hops rfl rfl rfl rfl) trivial (.pointer (some ⟨g, 0, none⟩)) rfl ?_
  simp only [Act.put, List.setIfInBounds_toArray, List.set_cons_zero, List.set_cons_succ]
  refine mx_nilc (d := some 52) (at_of hops rfl rfl rfl rfl) trivial g 0 rfl ?_
  simp only [Act.put, List.setIfInBounds_toArray, List.set_cons_zero, List.set_cons_succ]
  refine mx_field (d := some 53) (at_of hops rfl rfl rfl rfl) trivial Trym.field34_12 g 0 rfl 83 rfl ?_
  simp only [Act.put, List.setIfInBounds_toArray, List.set_cons_zero, List.set_cons_succ]
  refine mx_load (d := some 54) (at_of hops rfl rfl rfl rfl) trivial Trym.single4 g 83 rfl (v 83) (fun w hw => hw.cell 83 (by omega)) ?_
  simp only [Act.put, List.setIfInBounds_toArray, List.set_cons_zero, List.set_cons_succ]
  refine mx_move (d := some 55) (at_of hops rfl rfl rfl rfl) trivial (.pointer (some ⟨g, 0, none⟩)) rfl ?_
  simp only [Act.put, List.setIfInBounds_toArray, List.set_cons_zero, List.set_cons_succ]
  refine mx_nilc (d := some 56) (at_of hops rfl rfl rfl rfl) trivial g 0 rfl ?_
  simp only [Act.put, List.setIfInBounds_toArray, List.set_cons_zero, List.set_cons_succ]
  refine mx_field (d := some 57) (at_of hops rfl rfl rfl rfl) trivial Trym.field34_13 g 0 rfl 84 rfl ?_
  simp only [Act.put, List.setIfInBounds_toArray, List.set_cons_zero, List.set_cons_succ]
  refine mx_load (d := some 58) (at_of hops rfl rfl rfl rfl) trivial Trym.single3 g 84 rfl (v 84) (fun w hw => hw.cell 84 (by omega)) ?_
  simp only [Act.put, List.setIfInBounds_toArray, List.set_cons_zero, List.set_cons_succ]
  refine mx_move (d := some 59) (at_of hops rfl rfl rfl rfl) trivial (.pointer (some ⟨g, 0, none⟩)) rfl ?_
  simp only [Act.put, List.setIfInBounds_toArray, List.set_cons_zero, List.set_cons_succ]
  refine mx_nilc (d := some 60) (at_of hops rfl rfl rfl rfl) trivial g 0 rfl ?_
  simp only [Act.put, List.setIfInBounds_toArray, List.set_cons_zero, List.set_cons_succ]
  refine mx_field (d := some 61) (at_of hops rfl rfl rfl rfl) trivial Trym.field34_14 g 0 rfl 85 rfl ?_
  simp only [Act.put, List.setIfInBounds_toArray, List.set_cons_zero, List.set_cons_succ]
  refine mx_load (d := some 62) (at_of hops rfl rfl rfl rfl) trivial Trym.single4 g 85 rfl (v 85) (fun w hw => hw.cell 85 (by omega)) ?_
  simp only [Act.put, List.setIfInBounds_toArray, List.set_cons_zero, List.set_cons_succ]
  refine mx_move (d := some 63) (at_of hops rfl rfl rfl rfl) trivial (.pointer (some ⟨g, 0, none⟩)) rfl ?_
  simp only [Act.put, List.setIfInBounds_toArray, List.set_cons_zero, List.set_cons_succ]
  refine mx_nilc (d := some 64) (at_of hops rfl rfl rfl rfl) trivial g 0 rfl ?_
  simp only [Act.put, List.setIfInBounds_toArray, List.set_cons_zero, List.set_cons_succ]
  refine mx_field (d := some 65) (at_of hops rfl rfl rfl rfl) trivial Trym.field34_15 g 0 rfl 86 rfl ?_
  simp only [Act.put, List.setIfInBounds_toArray, List.set_cons_zero, List.set_cons_succ]
  refine mx_load (d := some 66) (at_of hops rfl rfl rfl rfl) trivial Trym.single4 g 86 rfl (v 86) (fun w hw => hw.cell 86 (by omega)) ?_
  simp only [Act.put, List.setIfInBounds_toArray, List.set_cons_zero, List.set_cons_succ]
  refine mx_move (d := some 67) (at_of hops rfl rfl rfl rfl) trivial (.pointer (some ⟨g, 0, none⟩)) rfl ?_
  simp only [Act.put, List.setIfInBounds_toArray, List.set_cons_zero, List.set_cons_succ]
  refine mx_nilc (d := some 68) (at_of hops rfl rfl rfl rfl) trivial g 0 rfl ?_
  simp only [Act.put, List.setIfInBounds_toArray, List.set_cons_zero, List.set_cons_succ]
  refine mx_field (d := some 69) (at_of hops rfl rfl rfl rfl) trivial Trym.field34_16 g 0 rfl 87 rfl ?_
  simp only [Act.put, List.setIfInBounds_toArray, List.set_cons_zero, List.set_cons_succ]
  refine mx_load (d := some 70) (at_of hops rfl rfl rfl rfl) trivial Trym.single32 g 87 rfl (.slice a l c) (fun w hw => by rw [hw.cell 87 (by omega), unhide HV]) ?_
  simp only [Act.put, List.setIfInBounds_toArray, List.set_cons_zero, List.set_cons_succ]
  refine mx_move (d := some 72) (at_of hops rfl rfl rfl rfl) trivial (.pointer (some ⟨g, 0, none⟩)) rfl ?_
  simp only [Act.put, List.setIfInBounds_toArray, List.set_cons_zero, List.set_cons_succ]
  refine mx_nilc (d := some 73) (at_of hops rfl rfl rfl rfl) trivial g 0 rfl ?_
  simp only [Act.put, List.setIfInBounds_toArray, List.set_cons_zero, List.set_cons_succ]
  refine mx_field (d := some 74) (at_of hops rfl rfl rfl rfl) trivial Trym.field34_17 g 0 rfl 88 rfl ?_
  simp only [Act.put, List.setIfInBounds_toArray, List.set_cons_zero, List.set_cons_succ]
  refine mx_load (d := some 75) (at_of hops rfl rfl rfl rfl) trivial Trym.single31 g 88 rfl (v 88) (fun w hw => hw.cell 88 (by omega)) ?_
  simp only [Act.put, List.setIfInBounds_toArray, List.set_cons_zero, List.set_cons_succ]
  refine mx_move (d := some 76) (at_of hops rfl rfl rfl rfl) trivial (.pointer (some ⟨g, 0, none⟩)) rfl ?_
  simp only [Act.put, List.setIfInBounds_toArray, List.set_cons_zero, List.set_cons_succ]
  refine mx_nilc (d := some 77) (at_of hops rfl rfl rfl rfl) trivial g 0 rfl ?_
  simp only [Act.put, List.setIfInBounds_toArray, List.set_cons_zero, List.set_cons_succ]
  refine mx_field (d := some 78) (at_of hops rfl rfl rfl rfl) trivial Trym.field34_18 g 0 rfl 89 rfl ?_
  simp only [Act.put, List.setIfInBounds_toArray, List.set_cons_zero, List.set_cons_succ]
  refine mx_load (d := some 79) (at_of hops rfl rfl rfl rfl) trivial Trym.single3 g 89 rfl (v 89) (fun w hw => hw.cell 89 (by omega)) ?_
  simp only [Act.put, List.setIfInBounds_toArray, List.set_cons_zero, List.set_cons_succ]
  have hhw : HasI w1.drew a l c e := (unhide HH).next (below_drew (unhide H1).below)
  refine mx_call (d := some 71) (R := IsClone w1.drew a l e) (at_of hops rfl rfl rfl rfl) trivial 15 #[.slice a l c] (fun o ho => by simp only [execOp, ho]; kernel_rfl) (cloneI_any a l c e _ hl hhw) ?_
  rintro x w3 ⟨a2, rfl, hn, hi3, hb3, hgg⟩
  have hB3 : Blk w3 g 90 v := below_blk hb3 ((unhide H1).old (unhide HB)).lt ((unhide H1).old (unhide HB))
  have hG3 : Blk w3 g1 90 v1 := below_blk hb3 (unhide H1).blk.lt (unhide H1).blk
  refine ⟨hB3, ?_⟩
  simp only [Act.put, List.setIfInBounds_toArray, List.set_cons_zero, List.set_cons_succ]
  refine mx_build (d := some 80) (at_of hops rfl rfl rfl rfl) trivial [(0, v 0), (1, v 1), (2, v 2), (3, v 3), (4, .agg (arr 64 (sh 4 v))), (5, .agg (arr 9 (sh 68 v))), (6, v 77), (7, v 78), (8, v 79), (9, v 80), (10, v 81), (11, v 82), (12, v 83), (13, v 84), (14, v 85), (15, v 86), (16, .slice a2 l l), (17, v 88), (18, v 89)] rfl _ (fun w => build39s v (unhide HO) a2 l w) ?_
  simp only [Act.put, List.setIfInBounds_toArray, List.set_cons_zero, List.set_cons_succ]
  refine mx_store_agg (d := none) (at_of hops rfl rfl rfl rfl) trivial Trym.agg39 g1 0 90 _ v1 rfl rfl hG3 (by omega) (one_setV (unhide HO) (one_slice _ _ _)).ones ?_
  intro w4 hb4 hbut4
  refine ⟨hbut4.blk ((unhide H1).ne (unhide HB)) hB3, ?_⟩
  simp only [Act.put]
  refine mx_nil ?_
  have HB4 := hide hb4
  have H34 : Hid (Below w.heap.size w w4 ∧ HasI w4 a2 l l e) := by
    have hle : w1.heap.size = w.heap.size + 1 := (unhide H1).size
    have hg : g1 = w.heap.size := (unhide H1).at_
    have b3 : Below w.heap.size w w3 := (below_drew (unhide H1).below).trans (hb3.mono (show w.heap.size ≤ w1.heap.size by omega))
    refine ⟨hbut4.below' b3 (by omega), ?_⟩
    rcases hi3 with h | ⟨x, hx, hc⟩
    · exact .inl h
    · refine .inr ⟨x, hx, fun i hi => ?_⟩
      have hci := hc i hi
      rcases hgg with h | ⟨g3, h, hle3⟩
      · rw [h] at hx; cases hx
      · rw [h] at hx
        injection hx with hx
        subst hx
        rw [Addr.add_lit] at hci ⊢
        have hne : g3 ≠ g1 := by have : w1.drew.heap.size = w1.heap.size := rfl; omega
        exact (World.cell?_of_block (hbut4.block g3 hne)).trans hci
  have HNN := hide hn
  clear hb4 hbut4 hB3 hG3 hi3 hb3 hn hhw hgg
  go_wp2
  refine bodyPost_ret (results_cell rfl _ _ g1 90 rfl Trym.agg39 _ ((unhide HB4).congr (fun j hj => put_all 90 _ _ j hj))) rfl ?_
  exact ⟨a2, rfl, unhide HNN, (unhide H34).2, (unhide H34).1⟩
end Go.Proofs.Qxb6602878aMods
