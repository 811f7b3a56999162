/- Seat b6602878aM: the framing as 90 cells: its mirrors in and out. -/
import Derived.Test.Qxb6602878aModsClone
namespace Go.Proofs.Qxb6602878aMods
open Go.RowKit

/-- Cells that take one cell each. -/
def One (n : Nat) (v : Nat → Value) : Prop := ∀ j, j < n → (v j).oneCell' = true ∧ (v j).cells = arr 1 (fun _ => v j)
theorem One.ones {n : Nat} {v : Nat → Value} (h : One n v) : Ones n v := fun j hj => (h j hj).1
/-- A part of a row. -/
def sh (k : Nat) (v : Nat → Value) (j : Nat) : Value := v (k + j)
theorem Blk.sh {w : World} {g n : Nat} {v : Nat → Value} (h : Blk w g n v) (off k : Nat) (hfit : off + k ≤ n) : ∀ j, j < k → w.cell? ⟨g, off + j, none⟩ = some (sh off v j) := fun j hj => h.cell _ (by omega)

theorem Trym.agg53 : Agg Trym.prog 53 90 := ⟨_, Trym.underlying53, rfl, by kernel_rfl⟩
theorem Trym.agg39 : Agg Trym.prog 39 90 := ⟨_, Trym.underlying39, rfl, by kernel_rfl⟩
theorem Trym.agg34 : Agg Trym.prog 34 90 := ⟨_, Trym.underlying34, rfl, by kernel_rfl⟩
theorem Trym.zero53 : (Trym.prog.info? 53).map (fun i => i.zero.map (fun z => z.cells.size)) = some (some 90) := by kernel_rfl
theorem Trym.zero39 : (Trym.prog.info? 39).map (fun i => i.zero.map (fun z => z.cells.size)) = some (some 90) := by kernel_rfl
theorem Trym.zero34 : (Trym.prog.info? 34).map (fun i => i.zero.map (fun z => z.cells.size)) = some (some 90) := by kernel_rfl

theorem zeroSize {P : Program} {t : TypeId} {n : Nat} (h : (P.info? t).map (fun i => i.zero.map (fun z => z.cells.size)) = some (some n)) (w : World) : ∃ z : Value, (zeroValue t).run P w = .ok z w ∧ z.cells.size = n := by
  obtain ⟨i, hi, hz⟩ := Option.map_eq_some_iff.1 h
  obtain ⟨z, hz, hn⟩ := Option.map_eq_some_iff.1 hz
  exact ⟨z, by simp [zeroValue, typeInfo, hi, hz], hn⟩

set_option maxRecDepth 4000 in
theorem build49v (v : Nat → Value) (h1 : One 90 v) (w : World) :
    (Instr.build 49 [(0, v 3), (1, .agg (arr 64 (sh 4 v))), (2, .agg (arr 9 (sh 68 v)))].toArray).run Trym.prog w = .ok (.agg (arr 74 (sh 3 v))) w := by
  obtain ⟨z, hz, hs⟩ := zeroSize Trym.zero49 w
  have hpl : ∀ (fs : Array Field), Trym.prog.underlying 49 = some (.struct fs) → (fs.mapM fun f => do pure (f.offset, ← sizeOf f.type) : Sem (Array (Nat × Nat))).run Trym.prog w = .ok #[(0, 1), (1, 64), (65, 9)] w := by
    intro fs h
    rw [Trym.underlying49] at h
    injection h with h
    injection h with h
    subst h
    kernel_rfl
  have hu := Trym.underlying49
  generalize hfs : (#[_, _, _] : Array Field) = fs at hu
  have hp := hpl fs hu
  simp only [Instr.build, Sem.run_bind, hz, Result.andThen_ok, run_underlying hu, hp]
  rw [zero_arr z.cells 74 hs]
  rw [fill_step _ 74 _ 0 _ _ 0 1 _ rfl (h1 3 (by omega)).2 (by omega)]
  rw [fill_step _ 74 _ 1 _ _ 1 64 _ rfl (agg_cells _ _) (by omega)]
  rw [fill_step _ 74 _ 2 _ _ 65 9 _ rfl (agg_cells _ _) (by omega)]
  simp only [Instr.fill, Sem.run_pure]
  rw [arr_congr 74 _ (sh 3 v)]
  intro j hj
  unfold put sh
  by_cases h0 : j = 0
  · subst h0; simp
  · by_cases h1 : j < 65
    · rw [if_neg (by omega), if_pos (by omega)]; congr 1; omega
    · rw [if_pos (by omega)]; congr 1; omega

set_option maxRecDepth 4000 in
theorem build53v (v : Nat → Value) (h1 : One 90 v) (w : World) :
    (Instr.build 53 [(0, v 0), (1, v 1), (2, v 2), (3, .agg (arr 74 (sh 3 v))), (4, v 77), (5, v 78), (6, v 79), (7, v 80), (8, v 81), (9, v 82), (10, v 83), (11, v 84), (12, v 85), (13, v 86), (14, v 87), (15, v 88), (16, v 89)].toArray).run Trym.prog w = .ok (.agg (arr 90 v)) w := by
  obtain ⟨z, hz, hs⟩ := zeroSize Trym.zero53 w
  have hpl : ∀ (fs : Array Field), Trym.prog.underlying 53 = some (.struct fs) → (fs.mapM fun f => do pure (f.offset, ← sizeOf f.type) : Sem (Array (Nat × Nat))).run Trym.prog w = .ok #[(0, 1), (1, 1), (2, 1), (3, 74), (77, 1), (78, 1), (79, 1), (80, 1), (81, 1), (82, 1), (83, 1), (84, 1), (85, 1), (86, 1), (87, 1), (88, 1), (89, 1)] w := by
    intro fs h
    rw [Trym.underlying53] at h
    injection h with h
    injection h with h
    subst h
    kernel_rfl
  have hu := Trym.underlying53
  generalize hfs : (#[_, _, _, _, _, _, _, _, _, _, _, _, _, _, _, _, _] : Array Field) = fs at hu
  have hp := hpl fs hu
  simp only [Instr.build, Sem.run_bind, hz, Result.andThen_ok, run_underlying hu, hp]
  rw [zero_arr z.cells 90 hs]
  rw [fill_step _ 90 _ 0 _ _ 0 1 _ rfl (h1 0 (by omega)).2 (by omega)]
  rw [fill_step _ 90 _ 1 _ _ 1 1 _ rfl (h1 1 (by omega)).2 (by omega)]
  rw [fill_step _ 90 _ 2 _ _ 2 1 _ rfl (h1 2 (by omega)).2 (by omega)]
  rw [fill_step _ 90 _ 3 _ _ 3 74 _ rfl (agg_cells _ _) (by omega)]
  rw [fill_step _ 90 _ 4 _ _ 77 1 _ rfl (h1 77 (by omega)).2 (by omega)]
  rw [fill_step _ 90 _ 5 _ _ 78 1 _ rfl (h1 78 (by omega)).2 (by omega)]
  rw [fill_step _ 90 _ 6 _ _ 79 1 _ rfl (h1 79 (by omega)).2 (by omega)]
  rw [fill_step _ 90 _ 7 _ _ 80 1 _ rfl (h1 80 (by omega)).2 (by omega)]
  rw [fill_step _ 90 _ 8 _ _ 81 1 _ rfl (h1 81 (by omega)).2 (by omega)]
  rw [fill_step _ 90 _ 9 _ _ 82 1 _ rfl (h1 82 (by omega)).2 (by omega)]
  rw [fill_step _ 90 _ 10 _ _ 83 1 _ rfl (h1 83 (by omega)).2 (by omega)]
  rw [fill_step _ 90 _ 11 _ _ 84 1 _ rfl (h1 84 (by omega)).2 (by omega)]
  rw [fill_step _ 90 _ 12 _ _ 85 1 _ rfl (h1 85 (by omega)).2 (by omega)]
  rw [fill_step _ 90 _ 13 _ _ 86 1 _ rfl (h1 86 (by omega)).2 (by omega)]
  rw [fill_step _ 90 _ 14 _ _ 87 1 _ rfl (h1 87 (by omega)).2 (by omega)]
  rw [fill_step _ 90 _ 15 _ _ 88 1 _ rfl (h1 88 (by omega)).2 (by omega)]
  rw [fill_step _ 90 _ 16 _ _ 89 1 _ rfl (h1 89 (by omega)).2 (by omega)]
  simp only [Instr.fill, Sem.run_pure]
  rw [arr_congr 90 _ v]
  intro j hj
  unfold put sh
  by_cases q16 : 89 ≤ j ∧ j < 89 + 1
  · rw [if_pos q16]; rw [show j = 89 by omega]
  rw [if_neg q16]
  by_cases q15 : 88 ≤ j ∧ j < 88 + 1
  · rw [if_pos q15]; rw [show j = 88 by omega]
  rw [if_neg q15]
  by_cases q14 : 87 ≤ j ∧ j < 87 + 1
  · rw [if_pos q14]; rw [show j = 87 by omega]
  rw [if_neg q14]
  by_cases q13 : 86 ≤ j ∧ j < 86 + 1
  · rw [if_pos q13]; rw [show j = 86 by omega]
  rw [if_neg q13]
  by_cases q12 : 85 ≤ j ∧ j < 85 + 1
  · rw [if_pos q12]; rw [show j = 85 by omega]
  rw [if_neg q12]
  by_cases q11 : 84 ≤ j ∧ j < 84 + 1
  · rw [if_pos q11]; rw [show j = 84 by omega]
  rw [if_neg q11]
  by_cases q10 : 83 ≤ j ∧ j < 83 + 1
  · rw [if_pos q10]; rw [show j = 83 by omega]
  rw [if_neg q10]
  by_cases q9 : 82 ≤ j ∧ j < 82 + 1
  · rw [if_pos q9]; rw [show j = 82 by omega]
  rw [if_neg q9]
  by_cases q8 : 81 ≤ j ∧ j < 81 + 1
  · rw [if_pos q8]; rw [show j = 81 by omega]
  rw [if_neg q8]
  by_cases q7 : 80 ≤ j ∧ j < 80 + 1
  · rw [if_pos q7]; rw [show j = 80 by omega]
  rw [if_neg q7]
  by_cases q6 : 79 ≤ j ∧ j < 79 + 1
  · rw [if_pos q6]; rw [show j = 79 by omega]
  rw [if_neg q6]
  by_cases q5 : 78 ≤ j ∧ j < 78 + 1
  · rw [if_pos q5]; rw [show j = 78 by omega]
  rw [if_neg q5]
  by_cases q4 : 77 ≤ j ∧ j < 77 + 1
  · rw [if_pos q4]; rw [show j = 77 by omega]
  rw [if_neg q4]
  by_cases q3 : 3 ≤ j ∧ j < 3 + 74
  · rw [if_pos q3]; congr 1; omega
  rw [if_neg q3]
  by_cases q2 : 2 ≤ j ∧ j < 2 + 1
  · rw [if_pos q2]; rw [show j = 2 by omega]
  rw [if_neg q2]
  by_cases q1 : 1 ≤ j ∧ j < 1 + 1
  · rw [if_pos q1]; rw [show j = 1 by omega]
  rw [if_neg q1]
  by_cases q0 : 0 ≤ j ∧ j < 0 + 1
  · rw [if_pos q0]; rw [show j = 0 by omega]
  rw [if_neg q0]
  omega

set_option maxRecDepth 4000 in
theorem build39v (v : Nat → Value) (h1 : One 90 v) (w : World) :
    (Instr.build 39 [(0, v 0), (1, v 1), (2, v 2), (3, v 3), (4, .agg (arr 64 (sh 4 v))), (5, .agg (arr 9 (sh 68 v))), (6, v 77), (7, v 78), (8, v 79), (9, v 80), (10, v 81), (11, v 82), (12, v 83), (13, v 84), (14, v 85), (15, v 86), (16, v 87), (17, v 88), (18, v 89)].toArray).run Trym.prog w = .ok (.agg (arr 90 v)) w := by
  obtain ⟨z, hz, hs⟩ := zeroSize Trym.zero39 w
  have hpl : ∀ (fs : Array Field), Trym.prog.underlying 39 = some (.struct fs) → (fs.mapM fun f => do pure (f.offset, ← sizeOf f.type) : Sem (Array (Nat × Nat))).run Trym.prog w = .ok #[(0, 1), (1, 1), (2, 1), (3, 1), (4, 64), (68, 9), (77, 1), (78, 1), (79, 1), (80, 1), (81, 1), (82, 1), (83, 1), (84, 1), (85, 1), (86, 1), (87, 1), (88, 1), (89, 1)] w := by
    intro fs h
    rw [Trym.underlying39] at h
    injection h with h
    injection h with h
    subst h
    kernel_rfl
  have hu := Trym.underlying39
  generalize hfs : (#[_, _, _, _, _, _, _, _, _, _, _, _, _, _, _, _, _, _, _] : Array Field) = fs at hu
  have hp := hpl fs hu
  simp only [Instr.build, Sem.run_bind, hz, Result.andThen_ok, run_underlying hu, hp]
  rw [zero_arr z.cells 90 hs]
  rw [fill_step _ 90 _ 0 _ _ 0 1 _ rfl (h1 0 (by omega)).2 (by omega)]
  rw [fill_step _ 90 _ 1 _ _ 1 1 _ rfl (h1 1 (by omega)).2 (by omega)]
  rw [fill_step _ 90 _ 2 _ _ 2 1 _ rfl (h1 2 (by omega)).2 (by omega)]
  rw [fill_step _ 90 _ 3 _ _ 3 1 _ rfl (h1 3 (by omega)).2 (by omega)]
  rw [fill_step _ 90 _ 4 _ _ 4 64 _ rfl (agg_cells _ _) (by omega)]
  rw [fill_step _ 90 _ 5 _ _ 68 9 _ rfl (agg_cells _ _) (by omega)]
  rw [fill_step _ 90 _ 6 _ _ 77 1 _ rfl (h1 77 (by omega)).2 (by omega)]
  rw [fill_step _ 90 _ 7 _ _ 78 1 _ rfl (h1 78 (by omega)).2 (by omega)]
  rw [fill_step _ 90 _ 8 _ _ 79 1 _ rfl (h1 79 (by omega)).2 (by omega)]
  rw [fill_step _ 90 _ 9 _ _ 80 1 _ rfl (h1 80 (by omega)).2 (by omega)]
  rw [fill_step _ 90 _ 10 _ _ 81 1 _ rfl (h1 81 (by omega)).2 (by omega)]
  rw [fill_step _ 90 _ 11 _ _ 82 1 _ rfl (h1 82 (by omega)).2 (by omega)]
  rw [fill_step _ 90 _ 12 _ _ 83 1 _ rfl (h1 83 (by omega)).2 (by omega)]
  rw [fill_step _ 90 _ 13 _ _ 84 1 _ rfl (h1 84 (by omega)).2 (by omega)]
  rw [fill_step _ 90 _ 14 _ _ 85 1 _ rfl (h1 85 (by omega)).2 (by omega)]
  rw [fill_step _ 90 _ 15 _ _ 86 1 _ rfl (h1 86 (by omega)).2 (by omega)]
  rw [fill_step _ 90 _ 16 _ _ 87 1 _ rfl (h1 87 (by omega)).2 (by omega)]
  rw [fill_step _ 90 _ 17 _ _ 88 1 _ rfl (h1 88 (by omega)).2 (by omega)]
  rw [fill_step _ 90 _ 18 _ _ 89 1 _ rfl (h1 89 (by omega)).2 (by omega)]
  simp only [Instr.fill, Sem.run_pure]
  rw [arr_congr 90 _ v]
  intro j hj
  unfold put sh
  by_cases q18 : 89 ≤ j ∧ j < 89 + 1
  · rw [if_pos q18]; rw [show j = 89 by omega]
  rw [if_neg q18]
  by_cases q17 : 88 ≤ j ∧ j < 88 + 1
  · rw [if_pos q17]; rw [show j = 88 by omega]
  rw [if_neg q17]
  by_cases q16 : 87 ≤ j ∧ j < 87 + 1
  · rw [if_pos q16]; rw [show j = 87 by omega]
  rw [if_neg q16]
  by_cases q15 : 86 ≤ j ∧ j < 86 + 1
  · rw [if_pos q15]; rw [show j = 86 by omega]
  rw [if_neg q15]
  by_cases q14 : 85 ≤ j ∧ j < 85 + 1
  · rw [if_pos q14]; rw [show j = 85 by omega]
  rw [if_neg q14]
  by_cases q13 : 84 ≤ j ∧ j < 84 + 1
  · rw [if_pos q13]; rw [show j = 84 by omega]
  rw [if_neg q13]
  by_cases q12 : 83 ≤ j ∧ j < 83 + 1
  · rw [if_pos q12]; rw [show j = 83 by omega]
  rw [if_neg q12]
  by_cases q11 : 82 ≤ j ∧ j < 82 + 1
  · rw [if_pos q11]; rw [show j = 82 by omega]
  rw [if_neg q11]
  by_cases q10 : 81 ≤ j ∧ j < 81 + 1
  · rw [if_pos q10]; rw [show j = 81 by omega]
  rw [if_neg q10]
  by_cases q9 : 80 ≤ j ∧ j < 80 + 1
  · rw [if_pos q9]; rw [show j = 80 by omega]
  rw [if_neg q9]
  by_cases q8 : 79 ≤ j ∧ j < 79 + 1
  · rw [if_pos q8]; rw [show j = 79 by omega]
  rw [if_neg q8]
  by_cases q7 : 78 ≤ j ∧ j < 78 + 1
  · rw [if_pos q7]; rw [show j = 78 by omega]
  rw [if_neg q7]
  by_cases q6 : 77 ≤ j ∧ j < 77 + 1
  · rw [if_pos q6]; rw [show j = 77 by omega]
  rw [if_neg q6]
  by_cases q5 : 68 ≤ j ∧ j < 68 + 9
  · rw [if_pos q5]; congr 1; omega
  rw [if_neg q5]
  by_cases q4 : 4 ≤ j ∧ j < 4 + 64
  · rw [if_pos q4]; congr 1; omega
  rw [if_neg q4]
  by_cases q3 : 3 ≤ j ∧ j < 3 + 1
  · rw [if_pos q3]; rw [show j = 3 by omega]
  rw [if_neg q3]
  by_cases q2 : 2 ≤ j ∧ j < 2 + 1
  · rw [if_pos q2]; rw [show j = 2 by omega]
  rw [if_neg q2]
  by_cases q1 : 1 ≤ j ∧ j < 1 + 1
  · rw [if_pos q1]; rw [show j = 1 by omega]
  rw [if_neg q1]
  by_cases q0 : 0 ≤ j ∧ j < 0 + 1
  · rw [if_pos q0]; rw [show j = 0 by omega]
  rw [if_neg q0]
  omega


section
variable {P : Program} {ops : Array Oper} {Q : Exit → Act → World → Prop} {S : World → Prop}
theorem held_nil {Q' : Act → Prop} {a : Act} {o : Oper} {rest : List Oper} (hg : o.guard = none) (x : Operand) (ho : o.op = .nilCheck x) (g off : Nat) (hx : a.eval x = .pointer (some ⟨g, off, none⟩)) (h : wpHeld P ops S Q' rest (a.put o.dst (.pointer (some ⟨g, off, none⟩)))) : wpHeld P ops S Q' (o :: rest) a :=
  wpHeld_step hg _ (fun w _ => by simp [execOp, ho, hx]) h
theorem held_build {Q' : Act → Prop} {a : Act} {o : Oper} {rest : List Oper} (hgd : o.guard = none) (t : TypeId) (parts : Array (Nat × Operand)) (ho : o.op = .build t parts) (vals : List (Nat × Value)) (hv : parts.toList.map (fun q => (q.1, a.eval q.2)) = vals)
    (v : Value) (hr : ∀ w, (Instr.build t vals.toArray).run P w = .ok v w) (h : wpHeld P ops S Q' rest (a.put o.dst v)) : wpHeld P ops S Q' (o :: rest) a := by
  have e : (parts.map fun (x : Nat × Operand) => (x.1, a.eval x.2)) = vals.toArray := by
    rw [← hv]; apply Array.ext'; simp
  refine wpHeld_step hgd v (fun w _ => ?_) h
  simp only [execOp, ho, e, Sem.run_bind, hr w]
  rfl
end
theorem below_drew {B : Nat} {w w1 : World} (h : Below B w w1) : Below B w w1.drew := ⟨h.os, h.tape, h.output, h.size, h.block⟩
section
variable {P : Program} {ops : Array Oper} {Q : Exit → Act → World → Prop} {S : World → Prop}
/-- The steps of a region that draws: 'true': the operation is taken ahead, since it yields its value in every world that meets S; 'false': the only one that may come up. -/
def wpMix (P : Program) (ops : Array Oper) (Q : Exit → Act → World → Prop) (S : World → Prop) : List (Bool × Oper) → Act → World → Prop
  | [], a, w => Q .normal a w
  | (true, o) :: rest, a, w => ∃ v, YieldsIf P ops S o v a ∧ wpMix P ops Q S rest (a.put o.dst v) w
  | (false, o) :: rest, a, w =>
    if Region.wanted o (yielded ops a.tmps) then o.wp P a w (fun a' w' => S w' ∧ wpMix P ops Q S rest a' w') Q else wpMix P ops Q S rest (a.put o.dst undef) w
def Region.mixB (md : Region.Mode) (ops : Array Oper) : List (Bool × Nat) → Array Bool → Bool
  | [], listed => (Region.ready md ops listed).isEmpty
  | (true, k) :: ks, listed => (Region.ready md ops listed).contains k && Region.free md ops listed k && Region.mixB md ops ks (listed.setIfInBounds k true)
  | (false, k) :: ks, listed => decide (Region.ready md ops listed = [k]) && Region.mixB md ops ks (listed.setIfInBounds k true)
theorem wpAnyH_mix {md : Region.Mode} (hsel : Region.noSelect ops = true) (hQ : ∀ c a d v w, Q (.panic c) (Act.put a d v) w → Q (.panic c) a w) :
    ∀ (ks : List (Bool × Nat)) (l : List (Bool × Oper)) (listed : Array Bool) (a : Act) (w : World), ks.map (fun q => (q.1, ops[q.2]?)) = l.map (fun q => (q.1, some q.2)) → Region.mixB md ops ks listed = true → S w →
    wpMix P ops Q S l a w → wpAnyH P md ops Q S ks.length listed a w
  | [], [], listed, a, w, _, hB, _, h => ⟨by simpa [Region.mixB] using hB, h⟩
  | [], _ :: _, _, _, _, hl, _, _, _ => by simp at hl
  | _ :: _, [], _, _, _, hl, _, _, _ => by simp at hl
  | (true, k) :: ks, (b, o) :: l, listed, a, w, hl, hB, hS, h => by
    simp only [List.map_cons, List.cons.injEq, Prod.mk.injEq] at hl
    obtain ⟨⟨rfl, h0⟩, hl'⟩ := hl
    simp only [Region.mixB, Bool.and_eq_true] at hB
    obtain ⟨⟨hr, hf⟩, hB'⟩ := hB
    obtain ⟨v, hy, hK⟩ := h
    exact wpAnyH_take h0 hsel hf hr (fun c a w => hQ c a o.dst v w) hy hS (wpAnyH_mix hsel hQ ks l _ _ w hl' hB' hS hK)
  | (false, k) :: ks, (b, o) :: l, listed, a, w, hl, hB, hS, h => by
    simp only [List.map_cons, List.cons.injEq, Prod.mk.injEq] at hl
    obtain ⟨⟨rfl, h0⟩, hl'⟩ := hl
    simp only [Region.mixB, Bool.and_eq_true, decide_eq_true_eq] at hB
    obtain ⟨hr, hB'⟩ := hB
    refine ⟨fun h1 => (by rw [hr] at h1; cases h1), fun i hi => ?_⟩
    rw [hr] at hi
    have hik : i = k := by simpa using hi
    subst hik
    unfold wpOp
    simp only [h0]
    unfold wpMix at h
    split
    · rename_i hw
      rw [if_pos hw] at h
      exact .inl (Oper.wp_mono (fun a' w' h' => ⟨h'.1, wpAnyH_mix hsel hQ ks l _ _ _ hl' hB' h'.1 h'.2⟩) h)
    · rename_i hw
      rw [if_neg hw] at h
      exact ⟨hS, wpAnyH_mix hsel hQ ks l _ _ _ hl' hB' hS h⟩
/-- A region that draws, by its steps. -/
theorem wp_region_mix {id : Nat} {a : Act} {w : World} (ks : List (Bool × Nat)) (l : List (Bool × Oper)) (S : World → Prop) (hm : P.follows .mixedOrders = true) (hQ : ∀ c a d v w, Q (.panic c) (Act.put a d v) w → Q (.panic c) a w)
    (hl : ks.map (fun q => (q.1, ops[q.2]?)) = l.map (fun q => (q.1, some q.2))) (hB : (Region.noSelect ops && decide (ks.length = ops.size) && Region.mixB .any ops ks (Array.replicate ops.size false)) = true) (hS : S w.drew)
    (h : wpMix P ops Q S l a w.drew) : (Code.region id ops true).wp P Q a w := by
  simp only [Bool.and_eq_true, decide_eq_true_eq] at hB
  obtain ⟨⟨hsel, hn⟩, hmx⟩ := hB
  refine wp_region_held (S := S) hm ?_
  have H := wpAnyH_mix (P := P) (md := .any) (Q := Q) (S := S) hsel hQ ks l _ a w.drew hl hmx hS h
  rw [hn] at H
  exact H

theorem mix_nil {a : Act} {w : World} (h : Q .normal a w) : wpMix P ops Q S [] a w := h
theorem mix_step {a : Act} {w : World} {o : Oper} {rest : List (Bool × Oper)} (hg : Region.wanted o (yielded ops a.tmps) = true) (v : Value) (hr : ∀ w, S w → (execOp a.eval o).run P w = .ok (.value v) w) (h : wpMix P ops Q S rest (a.put o.dst v) w) : wpMix P ops Q S ((true, o) :: rest) a w :=
  ⟨v, .inl ⟨hg, hr⟩, h⟩
theorem mix_move {a : Act} {w : World} {o : Oper} {rest : List (Bool × Oper)} (hg : Region.wanted o (yielded ops a.tmps) = true) (x : Operand) (ho : o.op = .move x ∨ o.op = .assign x) (v : Value) (hx : a.eval x = v) (h : wpMix P ops Q S rest (a.put o.dst v) w) : wpMix P ops Q S ((true, o) :: rest) a w :=
  mix_step hg v (fun w _ => by rcases ho with ho | ho <;> simp [execOp, ho, hx]) h
theorem mix_nilc {a : Act} {w : World} {o : Oper} {rest : List (Bool × Oper)} (hg : Region.wanted o (yielded ops a.tmps) = true) (x : Operand) (ho : o.op = .nilCheck x) (g off : Nat) (hx : a.eval x = .pointer (some ⟨g, off, none⟩)) (h : wpMix P ops Q S rest (a.put o.dst (.pointer (some ⟨g, off, none⟩))) w) : wpMix P ops Q S ((true, o) :: rest) a w :=
  mix_step hg _ (fun w _ => by simp [execOp, ho, hx]) h
theorem mix_field {a : Act} {w : World} {o : Oper} {rest : List (Bool × Oper)} (hg : Region.wanted o (yielded ops a.tmps) = true) (s : TypeId) (x : Operand) (i : Nat) (ho : o.op = .fieldAddr s x i) {d : Nat} (hf : fieldOff P s i = some d) (g off : Nat) (hx : a.eval x = .pointer (some ⟨g, off, none⟩))
    (h : wpMix P ops Q S rest (a.put o.dst (.pointer (some ⟨g, off + d, none⟩))) w) : wpMix P ops Q S ((true, o) :: rest) a w :=
  mix_step hg _ (fun w _ => by simp [execOp, ho, hx, run_fieldAt hf g off w]) h
theorem mix_load {a : Act} {w : World} {o : Oper} {rest : List (Bool × Oper)} (hg : Region.wanted o (yielded ops a.tmps) = true) (t : TypeId) (x : Operand) (ho : o.op = .load t x) (ht : single P t = true) (g off : Nat) (hx : a.eval x = .pointer (some ⟨g, off, none⟩)) (v : Value)
    (hc : ∀ w, S w → w.cell? ⟨g, off, none⟩ = some v) (h : wpMix P ops Q S rest (a.put o.dst v) w) : wpMix P ops Q S ((true, o) :: rest) a w :=
  mix_step hg v (fun w hw => by simp only [execOp, ho, hx, Sem.run_bind, run_loadAt_single ht g off v w (hc w hw)]; rfl) h
theorem mix_load_agg {a : Act} {w : World} {o : Oper} {rest : List (Bool × Oper)} (hg : Region.wanted o (yielded ops a.tmps) = true) (t : TypeId) (x : Operand) (ho : o.op = .load t x) {n : Nat} (ht : Agg P t n) (g off : Nat) (hx : a.eval x = .pointer (some ⟨g, off, none⟩)) (f : Nat → Value)
    (hc : ∀ w, S w → ∀ j, j < n → w.cell? ⟨g, off + j, none⟩ = some (f j)) (h : wpMix P ops Q S rest (a.put o.dst (.agg (arr n f))) w) : wpMix P ops Q S ((true, o) :: rest) a w :=
  mix_step hg _ (fun w hw => by simp only [execOp, ho, hx, Sem.run_bind, run_loadAt_agg ht w g off f (hc w hw)]; rfl) h
theorem mix_pick {a : Act} {w : World} {o : Oper} {rest : List (Bool × Oper)} (hg : Region.wanted o (yielded ops a.tmps) = true) (c x y : Operand) (ho : o.op = .pick c x y) (hc : a.eval c = .bool true) (v : Value) (hx : a.eval x = v) (h : wpMix P ops Q S rest (a.put o.dst v) w) : wpMix P ops Q S ((true, o) :: rest) a w :=
  mix_step hg v (fun w _ => by simp [execOp, ho, hc, hx, asBool]) h
theorem mix_build {a : Act} {w : World} {o : Oper} {rest : List (Bool × Oper)} (hg : Region.wanted o (yielded ops a.tmps) = true) (t : TypeId) (parts : Array (Nat × Operand)) (ho : o.op = .build t parts) (vals : List (Nat × Value)) (hv : parts.toList.map (fun q => (q.1, a.eval q.2)) = vals)
    (v : Value) (hr : ∀ w, (Instr.build t vals.toArray).run P w = .ok v w) (h : wpMix P ops Q S rest (a.put o.dst v) w) : wpMix P ops Q S ((true, o) :: rest) a w := by
  have e : (parts.map fun (x : Nat × Operand) => (x.1, a.eval x.2)) = vals.toArray := by
    rw [← hv]; apply Array.ext'; simp
  refine mix_step hg v (fun w _ => ?_) h
  simp only [execOp, ho, e, Sem.run_bind, hr w]
  rfl
theorem mix_call {a : Act} {w : World} {o : Oper} {rest : List (Bool × Oper)} (hg : Region.wanted o (yielded ops a.tmps) = true) (f : FuncId) (args : Array Value) (hrun : (execOp a.eval o).run P w = .ok (.enter f args) w) {R : Value → World → Prop}
    (hc : Calls P f args w fun e w' => ∃ v, e = .returned v ∧ R v w') (hK : ∀ v w', R v w' → S w' ∧ wpMix P ops Q S rest (a.put o.dst v) w') : wpMix P ops Q S ((false, o) :: rest) a w := by
  unfold wpMix
  rw [if_pos hg]
  unfold Oper.wp
  rw [hrun, Oper.upon_enter]
  refine hc.mono fun e w'' hh => ?_
  obtain ⟨v, rfl, hR⟩ := hh
  exact hK v w'' hR
theorem mix_store_agg {a : Act} {w : World} {o : Oper} {rest : List (Bool × Oper)} (hgd : Region.wanted o (yielded ops a.tmps) = true) (t : TypeId) (x y : Operand) (ho : o.op = .store t x y) {n : Nat} (ht : Agg P t n)
    (g off m : Nat) (f v : Nat → Value) (hx : a.eval x = .pointer (some ⟨g, off, none⟩)) (hy : a.eval y = .agg (arr n f)) (hb : Blk w g m v) (hfit : off + n ≤ m) (h1 : Ones n f)
    (hK : ∀ w', Blk w' g m (put off n f v) → But g w w' → S w' ∧ wpMix P ops Q S rest (a.put o.dst undef) w') : wpMix P ops Q S ((false, o) :: rest) a w := by
  obtain ⟨w', hr, hb', hbut⟩ := run_storeAt_agg ht w g off m f v hb hfit h1
  unfold wpMix
  rw [if_pos hgd]
  unfold Oper.wp
  simp only [execOp, ho, hx, hy, Sem.run_bind, hr]
  exact hK w' hb' hbut

theorem results_cell {fn : Func} {t : Tmp} {ty : TypeId} (h : fn.results = #[.cell t ty]) (tmps : Array Value) (w : World) (g n : Nat) (hp : tmps.getD t undef = .pointer (some ⟨g, 0, none⟩)) (ht : Agg P ty n) (f : Nat → Value) (hb : Blk w g n f) :
    (results fn tmps).run P w = .ok (.agg (arr n f)) w := by
  have := run_load_agg ht w g 0 f hb.cells0
  have hp' : tmps[t]?.getD undef = .pointer (some ⟨g, 0, none⟩) := by simpa using hp
  simp [results, h, hp', asAddr, this]
end
theorem Trym.field34_0 : fieldOff Trym.prog 34 0 = some 0 := by kernel_rfl
theorem Trym.field34_1 : fieldOff Trym.prog 34 1 = some 1 := by kernel_rfl
theorem Trym.field34_2 : fieldOff Trym.prog 34 2 = some 2 := by kernel_rfl
theorem Trym.field34_3 : fieldOff Trym.prog 34 3 = some 3 := by kernel_rfl
theorem Trym.field34_4 : fieldOff Trym.prog 34 4 = some 4 := by kernel_rfl
theorem Trym.field34_5 : fieldOff Trym.prog 34 5 = some 68 := by kernel_rfl
theorem Trym.field34_6 : fieldOff Trym.prog 34 6 = some 77 := by kernel_rfl
theorem Trym.field34_7 : fieldOff Trym.prog 34 7 = some 78 := by kernel_rfl
theorem Trym.field34_8 : fieldOff Trym.prog 34 8 = some 79 := by kernel_rfl
theorem Trym.field34_9 : fieldOff Trym.prog 34 9 = some 80 := by kernel_rfl
theorem Trym.field34_10 : fieldOff Trym.prog 34 10 = some 81 := by kernel_rfl
theorem Trym.field34_11 : fieldOff Trym.prog 34 11 = some 82 := by kernel_rfl
theorem Trym.field34_12 : fieldOff Trym.prog 34 12 = some 83 := by kernel_rfl
theorem Trym.field34_13 : fieldOff Trym.prog 34 13 = some 84 := by kernel_rfl
theorem Trym.field34_14 : fieldOff Trym.prog 34 14 = some 85 := by kernel_rfl
theorem Trym.field34_15 : fieldOff Trym.prog 34 15 = some 86 := by kernel_rfl
theorem Trym.field34_16 : fieldOff Trym.prog 34 16 = some 87 := by kernel_rfl
theorem Trym.field34_17 : fieldOff Trym.prog 34 17 = some 88 := by kernel_rfl
theorem Trym.field34_18 : fieldOff Trym.prog 34 18 = some 89 := by kernel_rfl
theorem Trym.field39_0 : fieldOff Trym.prog 39 0 = some 0 := by kernel_rfl
theorem Trym.field39_1 : fieldOff Trym.prog 39 1 = some 1 := by kernel_rfl
theorem Trym.field39_2 : fieldOff Trym.prog 39 2 = some 2 := by kernel_rfl
theorem Trym.field39_3 : fieldOff Trym.prog 39 3 = some 3 := by kernel_rfl
theorem Trym.field39_4 : fieldOff Trym.prog 39 4 = some 4 := by kernel_rfl
theorem Trym.field39_5 : fieldOff Trym.prog 39 5 = some 68 := by kernel_rfl
theorem Trym.field39_6 : fieldOff Trym.prog 39 6 = some 77 := by kernel_rfl
theorem Trym.field39_7 : fieldOff Trym.prog 39 7 = some 78 := by kernel_rfl
theorem Trym.field39_8 : fieldOff Trym.prog 39 8 = some 79 := by kernel_rfl
theorem Trym.field39_9 : fieldOff Trym.prog 39 9 = some 80 := by kernel_rfl
theorem Trym.field39_10 : fieldOff Trym.prog 39 10 = some 81 := by kernel_rfl
theorem Trym.field39_11 : fieldOff Trym.prog 39 11 = some 82 := by kernel_rfl
theorem Trym.field39_12 : fieldOff Trym.prog 39 12 = some 83 := by kernel_rfl
theorem Trym.field39_13 : fieldOff Trym.prog 39 13 = some 84 := by kernel_rfl
theorem Trym.field39_14 : fieldOff Trym.prog 39 14 = some 85 := by kernel_rfl
theorem Trym.field39_15 : fieldOff Trym.prog 39 15 = some 86 := by kernel_rfl
theorem Trym.field39_16 : fieldOff Trym.prog 39 16 = some 87 := by kernel_rfl
theorem Trym.field39_17 : fieldOff Trym.prog 39 17 = some 88 := by kernel_rfl
theorem Trym.field39_18 : fieldOff Trym.prog 39 18 = some 89 := by kernel_rfl
theorem Trym.field53_0 : fieldOff Trym.prog 53 0 = some 0 := by kernel_rfl
theorem Trym.field53_1 : fieldOff Trym.prog 53 1 = some 1 := by kernel_rfl
theorem Trym.field53_2 : fieldOff Trym.prog 53 2 = some 2 := by kernel_rfl
theorem Trym.field53_3 : fieldOff Trym.prog 53 3 = some 3 := by kernel_rfl
theorem Trym.field53_4 : fieldOff Trym.prog 53 4 = some 77 := by kernel_rfl
theorem Trym.field53_5 : fieldOff Trym.prog 53 5 = some 78 := by kernel_rfl
theorem Trym.field53_6 : fieldOff Trym.prog 53 6 = some 79 := by kernel_rfl
theorem Trym.field53_7 : fieldOff Trym.prog 53 7 = some 80 := by kernel_rfl
theorem Trym.field53_8 : fieldOff Trym.prog 53 8 = some 81 := by kernel_rfl
theorem Trym.field53_9 : fieldOff Trym.prog 53 9 = some 82 := by kernel_rfl
theorem Trym.field53_10 : fieldOff Trym.prog 53 10 = some 83 := by kernel_rfl
theorem Trym.field53_11 : fieldOff Trym.prog 53 11 = some 84 := by kernel_rfl
theorem Trym.field53_12 : fieldOff Trym.prog 53 12 = some 85 := by kernel_rfl
theorem Trym.field53_13 : fieldOff Trym.prog 53 13 = some 86 := by kernel_rfl
theorem Trym.field53_14 : fieldOff Trym.prog 53 14 = some 87 := by kernel_rfl
theorem Trym.field53_15 : fieldOff Trym.prog 53 15 = some 88 := by kernel_rfl
theorem Trym.field53_16 : fieldOff Trym.prog 53 16 = some 89 := by kernel_rfl
theorem Trym.single4 : single Trym.prog 4 = true := by kernel_rfl
theorem Trym.single31 : single Trym.prog 31 = true := by kernel_rfl
theorem Trym.single32 : single Trym.prog 32 = true := by kernel_rfl
theorem Trym.single51 : single Trym.prog 51 = true := by kernel_rfl

set_option maxHeartbeats 8000000 in
set_option maxRecDepth 20000 in
/-- zzFramingIn. -/
theorem framingIn_any (g : Nat) (v : Nat → Value) (w : World) (h1 : One 90 v) (hb : Blk w g 90 v) :
    Calls Trym.prog 24 #[.pointer (some ⟨g, 0, none⟩)] w fun e w' => e = .returned (.agg (arr 90 v)) ∧ Below w.heap.size w w' := by
  have HB := hide hb
  have HO := hide h1
  clear hb h1
  go_enter Trym.func24, Trym.ntmps24
  go_wp2_with (first
    | (refine wpList_new rfl 53 rfl 90 Trym.zero53 ?_; intro w1 g1 v1 h1; have H1 := hide h1; clear h1))
  simp only [List.append_eq, List.cons_append, List.nil_append]
  refine wp_region_held_tail 78 (fun w' => Blk w' g 90 v) follows (fun c a d v w h => by cases d <;> exact h) (by kernel_rfl) ((unhide H1).old (unhide HB)) ?_
  simp only [List.take_succ_cons, List.take_zero, List.drop_succ_cons, List.drop_zero]
  simp only [Act.put, List.setIfInBounds_toArray, List.set_cons_zero, List.set_cons_succ]
  refine held_move rfl _ rfl (.pointer (some ⟨g, 0, none⟩)) rfl ?_
  simp only [Act.put, List.setIfInBounds_toArray, List.set_cons_zero, List.set_cons_succ]
  refine held_nil rfl _ rfl g 0 rfl ?_
  simp only [Act.put, List.setIfInBounds_toArray, List.set_cons_zero, List.set_cons_succ]
  refine held_field rfl 39 _ 0 rfl Trym.field39_0 g 0 rfl ?_
  simp only [Act.put, List.setIfInBounds_toArray, List.set_cons_zero, List.set_cons_succ]
  refine held_load rfl 4 _ rfl Trym.single4 g 0 rfl (v 0) (fun w hw => hw.cell 0 (by omega)) ?_
  simp only [Act.put, List.setIfInBounds_toArray, List.set_cons_zero, List.set_cons_succ]
  refine held_move rfl _ rfl (.pointer (some ⟨g, 0, none⟩)) rfl ?_
  simp only [Act.put, List.setIfInBounds_toArray, List.set_cons_zero, List.set_cons_succ]
  refine held_nil rfl _ rfl g 0 rfl ?_
  simp only [Act.put, List.setIfInBounds_toArray, List.set_cons_zero, List.set_cons_succ]
  refine held_field rfl 39 _ 1 rfl Trym.field39_1 g 0 rfl ?_
  simp only [Act.put, List.setIfInBounds_toArray, List.set_cons_zero, List.set_cons_succ]
  refine held_load rfl 4 _ rfl Trym.single4 g 1 rfl (v 1) (fun w hw => hw.cell 1 (by omega)) ?_
  simp only [Act.put, List.setIfInBounds_toArray, List.set_cons_zero, List.set_cons_succ]
  refine held_move rfl _ rfl (.pointer (some ⟨g, 0, none⟩)) rfl ?_
  simp only [Act.put, List.setIfInBounds_toArray, List.set_cons_zero, List.set_cons_succ]
  refine held_nil rfl _ rfl g 0 rfl ?_
  simp only [Act.put, List.setIfInBounds_toArray, List.set_cons_zero, List.set_cons_succ]
  refine held_field rfl 39 _ 2 rfl Trym.field39_2 g 0 rfl ?_
  simp only [Act.put, List.setIfInBounds_toArray, List.set_cons_zero, List.set_cons_succ]
  refine held_load rfl 3 _ rfl Trym.single3 g 2 rfl (v 2) (fun w hw => hw.cell 2 (by omega)) ?_
  simp only [Act.put, List.setIfInBounds_toArray, List.set_cons_zero, List.set_cons_succ]
  refine held_move rfl _ rfl (.pointer (some ⟨g, 0, none⟩)) rfl ?_
  simp only [Act.put, List.setIfInBounds_toArray, List.set_cons_zero, List.set_cons_succ]
  refine held_nil rfl _ rfl g 0 rfl ?_
  simp only [Act.put, List.setIfInBounds_toArray, List.set_cons_zero, List.set_cons_succ]
  refine held_field rfl 39 _ 3 rfl Trym.field39_3 g 0 rfl ?_
  simp only [Act.put, List.setIfInBounds_toArray, List.set_cons_zero, List.set_cons_succ]
  refine held_load rfl 3 _ rfl Trym.single3 g 3 rfl (v 3) (fun w hw => hw.cell 3 (by omega)) ?_
  simp only [Act.put, List.setIfInBounds_toArray, List.set_cons_zero, List.set_cons_succ]
  refine held_move rfl _ rfl (.pointer (some ⟨g, 0, none⟩)) rfl ?_
  simp only [Act.put, List.setIfInBounds_toArray, List.set_cons_zero, List.set_cons_succ]
  refine held_nil rfl _ rfl g 0 rfl ?_
  simp only [Act.put, List.setIfInBounds_toArray, List.set_cons_zero, List.set_cons_succ]
  refine held_field rfl 39 _ 4 rfl Trym.field39_4 g 0 rfl ?_
  simp only [Act.put, List.setIfInBounds_toArray, List.set_cons_zero, List.set_cons_succ]
  refine held_load_agg rfl 22 _ rfl Trym.agg22 g 4 rfl (sh 4 v) (fun w hw => hw.sh 4 64 (by omega)) ?_
  simp only [Act.put, List.setIfInBounds_toArray, List.set_cons_zero, List.set_cons_succ]
  refine held_move rfl _ rfl (.pointer (some ⟨g, 0, none⟩)) rfl ?_
  simp only [Act.put, List.setIfInBounds_toArray, List.set_cons_zero, List.set_cons_succ]
  refine held_nil rfl _ rfl g 0 rfl ?_
  simp only [Act.put, List.setIfInBounds_toArray, List.set_cons_zero, List.set_cons_succ]
  refine held_field rfl 39 _ 5 rfl Trym.field39_5 g 0 rfl ?_
  simp only [Act.put, List.setIfInBounds_toArray, List.set_cons_zero, List.set_cons_succ]
  refine held_load_agg rfl 23 _ rfl Trym.agg23 g 68 rfl (sh 68 v) (fun w hw => hw.sh 68 9 (by omega)) ?_
  simp only [Act.put, List.setIfInBounds_toArray, List.set_cons_zero, List.set_cons_succ]
  refine held_build rfl 49 _ rfl [(0, v 3), (1, .agg (arr 64 (sh 4 v))), (2, .agg (arr 9 (sh 68 v)))] rfl _ (fun w => build49v v (unhide HO) w) ?_
  simp only [Act.put, List.setIfInBounds_toArray, List.set_cons_zero, List.set_cons_succ]
  refine held_move rfl _ rfl (.pointer (some ⟨g, 0, none⟩)) rfl ?_
  simp only [Act.put, List.setIfInBounds_toArray, List.set_cons_zero, List.set_cons_succ]
  refine held_nil rfl _ rfl g 0 rfl ?_
  simp only [Act.put, List.setIfInBounds_toArray, List.set_cons_zero, List.set_cons_succ]
  refine held_field rfl 39 _ 6 rfl Trym.field39_6 g 0 rfl ?_
  simp only [Act.put, List.setIfInBounds_toArray, List.set_cons_zero, List.set_cons_succ]
  refine held_load rfl 3 _ rfl Trym.single3 g 77 rfl (v 77) (fun w hw => hw.cell 77 (by omega)) ?_
  simp only [Act.put, List.setIfInBounds_toArray, List.set_cons_zero, List.set_cons_succ]
  refine held_move rfl _ rfl (.pointer (some ⟨g, 0, none⟩)) rfl ?_
  simp only [Act.put, List.setIfInBounds_toArray, List.set_cons_zero, List.set_cons_succ]
  refine held_nil rfl _ rfl g 0 rfl ?_
  simp only [Act.put, List.setIfInBounds_toArray, List.set_cons_zero, List.set_cons_succ]
  refine held_field rfl 39 _ 7 rfl Trym.field39_7 g 0 rfl ?_
  simp only [Act.put, List.setIfInBounds_toArray, List.set_cons_zero, List.set_cons_succ]
  refine held_load rfl 4 _ rfl Trym.single4 g 78 rfl (v 78) (fun w hw => hw.cell 78 (by omega)) ?_
  simp only [Act.put, List.setIfInBounds_toArray, List.set_cons_zero, List.set_cons_succ]
  refine held_move rfl _ rfl (.pointer (some ⟨g, 0, none⟩)) rfl ?_
  simp only [Act.put, List.setIfInBounds_toArray, List.set_cons_zero, List.set_cons_succ]
  refine held_nil rfl _ rfl g 0 rfl ?_
  simp only [Act.put, List.setIfInBounds_toArray, List.set_cons_zero, List.set_cons_succ]
  refine held_field rfl 39 _ 8 rfl Trym.field39_8 g 0 rfl ?_
  simp only [Act.put, List.setIfInBounds_toArray, List.set_cons_zero, List.set_cons_succ]
  refine held_load rfl 4 _ rfl Trym.single4 g 79 rfl (v 79) (fun w hw => hw.cell 79 (by omega)) ?_
  simp only [Act.put, List.setIfInBounds_toArray, List.set_cons_zero, List.set_cons_succ]
  refine held_move rfl _ rfl (.pointer (some ⟨g, 0, none⟩)) rfl ?_
  simp only [Act.put, List.setIfInBounds_toArray, List.set_cons_zero, List.set_cons_succ]
  refine held_nil rfl _ rfl g 0 rfl ?_
  simp only [Act.put, List.setIfInBounds_toArray, List.set_cons_zero, List.set_cons_succ]
  refine held_field rfl 39 _ 9 rfl Trym.field39_9 g 0 rfl ?_
  simp only [Act.put, List.setIfInBounds_toArray, List.set_cons_zero, List.set_cons_succ]
  refine held_load rfl 3 _ rfl Trym.single3 g 80 rfl (v 80) (fun w hw => hw.cell 80 (by omega)) ?_
  simp only [Act.put, List.setIfInBounds_toArray, List.set_cons_zero, List.set_cons_succ]
  refine held_move rfl _ rfl (.pointer (some ⟨g, 0, none⟩)) rfl ?_
  simp only [Act.put, List.setIfInBounds_toArray, List.set_cons_zero, List.set_cons_succ]
  refine held_nil rfl _ rfl g 0 rfl ?_
  simp only [Act.put, List.setIfInBounds_toArray, List.set_cons_zero, List.set_cons_succ]
  refine held_field rfl 39 _ 10 rfl Trym.field39_10 g 0 rfl ?_
  simp only [Act.put, List.setIfInBounds_toArray, List.set_cons_zero, List.set_cons_succ]
  refine held_load rfl 31 _ rfl Trym.single31 g 81 rfl (v 81) (fun w hw => hw.cell 81 (by omega)) ?_
  simp only [Act.put, List.setIfInBounds_toArray, List.set_cons_zero, List.set_cons_succ]
  refine held_move rfl _ rfl (.pointer (some ⟨g, 0, none⟩)) rfl ?_
  simp only [Act.put, List.setIfInBounds_toArray, List.set_cons_zero, List.set_cons_succ]
  refine held_nil rfl _ rfl g 0 rfl ?_
  simp only [Act.put, List.setIfInBounds_toArray, List.set_cons_zero, List.set_cons_succ]
  refine held_field rfl 39 _ 11 rfl Trym.field39_11 g 0 rfl ?_
  simp only [Act.put, List.setIfInBounds_toArray, List.set_cons_zero, List.set_cons_succ]
  refine held_load rfl 3 _ rfl Trym.single3 g 82 rfl (v 82) (fun w hw => hw.cell 82 (by omega)) ?_
  simp only [Act.put, List.setIfInBounds_toArray, List.set_cons_zero, List.set_cons_succ]
  refine held_move rfl _ rfl (.pointer (some ⟨g, 0, none⟩)) rfl ?_
  simp only [Act.put, List.setIfInBounds_toArray, List.set_cons_zero, List.set_cons_succ]
  refine held_nil rfl _ rfl g 0 rfl ?_
  simp only [Act.put, List.setIfInBounds_toArray, List.set_cons_zero, List.set_cons_succ]
  refine held_field rfl 39 _ 12 rfl Trym.field39_12 g 0 rfl ?_
  simp only [Act.put, List.setIfInBounds_toArray, List.set_cons_zero, List.set_cons_succ]
  refine held_load rfl 4 _ rfl Trym.single4 g 83 rfl (v 83) (fun w hw => hw.cell 83 (by omega)) ?_
  simp only [Act.put, List.setIfInBounds_toArray, List.set_cons_zero, List.set_cons_succ]
  refine held_move rfl _ rfl (.pointer (some ⟨g, 0, none⟩)) rfl ?_
  simp only [Act.put, List.setIfInBounds_toArray, List.set_cons_zero, List.set_cons_succ]
  refine held_nil rfl _ rfl g 0 rfl ?_
  simp only [Act.put, List.setIfInBounds_toArray, List.set_cons_zero, List.set_cons_succ]
  refine held_field rfl 39 _ 13 rfl Trym.field39_13 g 0 rfl ?_
  simp only [Act.put, List.setIfInBounds_toArray, List.set_cons_zero, List.set_cons_succ]
  refine held_load rfl 3 _ rfl Trym.single3 g 84 rfl (v 84) (fun w hw => hw.cell 84 (by omega)) ?_
  simp only [Act.put, List.setIfInBounds_toArray, List.set_cons_zero, List.set_cons_succ]
  refine held_move rfl _ rfl (.pointer (some ⟨g, 0, none⟩)) rfl ?_
  simp only [Act.put, List.setIfInBounds_toArray, List.set_cons_zero, List.set_cons_succ]
  refine held_nil rfl _ rfl g 0 rfl ?_
  simp only [Act.put, List.setIfInBounds_toArray, List.set_cons_zero, List.set_cons_succ]
  refine held_field rfl 39 _ 14 rfl Trym.field39_14 g 0 rfl ?_
  simp only [Act.put, List.setIfInBounds_toArray, List.set_cons_zero, List.set_cons_succ]
  refine held_load rfl 4 _ rfl Trym.single4 g 85 rfl (v 85) (fun w hw => hw.cell 85 (by omega)) ?_
  simp only [Act.put, List.setIfInBounds_toArray, List.set_cons_zero, List.set_cons_succ]
  refine held_move rfl _ rfl (.pointer (some ⟨g, 0, none⟩)) rfl ?_
  simp only [Act.put, List.setIfInBounds_toArray, List.set_cons_zero, List.set_cons_succ]
  refine held_nil rfl _ rfl g 0 rfl ?_
  simp only [Act.put, List.setIfInBounds_toArray, List.set_cons_zero, List.set_cons_succ]
  refine held_field rfl 39 _ 15 rfl Trym.field39_15 g 0 rfl ?_
  simp only [Act.put, List.setIfInBounds_toArray, List.set_cons_zero, List.set_cons_succ]
  refine held_load rfl 4 _ rfl Trym.single4 g 86 rfl (v 86) (fun w hw => hw.cell 86 (by omega)) ?_
  simp only [Act.put, List.setIfInBounds_toArray, List.set_cons_zero, List.set_cons_succ]
  refine held_move rfl _ rfl (.pointer (some ⟨g, 0, none⟩)) rfl ?_
  simp only [Act.put, List.setIfInBounds_toArray, List.set_cons_zero, List.set_cons_succ]
  refine held_nil rfl _ rfl g 0 rfl ?_
  simp only [Act.put, List.setIfInBounds_toArray, List.set_cons_zero, List.set_cons_succ]
  refine held_field rfl 39 _ 16 rfl Trym.field39_16 g 0 rfl ?_
  simp only [Act.put, List.setIfInBounds_toArray, List.set_cons_zero, List.set_cons_succ]
  refine held_load rfl 32 _ rfl Trym.single32 g 87 rfl (v 87) (fun w hw => hw.cell 87 (by omega)) ?_
  simp only [Act.put, List.setIfInBounds_toArray, List.set_cons_zero, List.set_cons_succ]
  refine held_move rfl _ rfl (.pointer (some ⟨g, 0, none⟩)) rfl ?_
  simp only [Act.put, List.setIfInBounds_toArray, List.set_cons_zero, List.set_cons_succ]
  refine held_nil rfl _ rfl g 0 rfl ?_
  simp only [Act.put, List.setIfInBounds_toArray, List.set_cons_zero, List.set_cons_succ]
  refine held_field rfl 39 _ 17 rfl Trym.field39_17 g 0 rfl ?_
  simp only [Act.put, List.setIfInBounds_toArray, List.set_cons_zero, List.set_cons_succ]
  refine held_load rfl 31 _ rfl Trym.single31 g 88 rfl (v 88) (fun w hw => hw.cell 88 (by omega)) ?_
  simp only [Act.put, List.setIfInBounds_toArray, List.set_cons_zero, List.set_cons_succ]
  refine held_move rfl _ rfl (.pointer (some ⟨g, 0, none⟩)) rfl ?_
  simp only [Act.put, List.setIfInBounds_toArray, List.set_cons_zero, List.set_cons_succ]
  refine held_nil rfl _ rfl g 0 rfl ?_
  simp only [Act.put, List.setIfInBounds_toArray, List.set_cons_zero, List.set_cons_succ]
  refine held_field rfl 39 _ 18 rfl Trym.field39_18 g 0 rfl ?_
  simp only [Act.put, List.setIfInBounds_toArray, List.set_cons_zero, List.set_cons_succ]
  refine held_load rfl 3 _ rfl Trym.single3 g 89 rfl (v 89) (fun w hw => hw.cell 89 (by omega)) ?_
  simp only [Act.put, List.setIfInBounds_toArray, List.set_cons_zero, List.set_cons_succ]
  refine held_build rfl 53 _ rfl [(0, v 0), (1, v 1), (2, v 2), (3, .agg (arr 74 (sh 3 v))), (4, v 77), (5, v 78), (6, v 79), (7, v 80), (8, v 81), (9, v 82), (10, v 83), (11, v 84), (12, v 85), (13, v 86), (14, v 87), (15, v 88), (16, v 89)] rfl _ (fun w => build53v v (unhide HO) w) ?_
  simp only [Act.put, List.setIfInBounds_toArray, List.set_cons_zero, List.set_cons_succ]
  refine wpHeld_nil ?_
  refine tail_store_agg rfl 53 _ _ rfl Trym.agg53 g1 0 90 v v1 rfl rfl ((unhide H1).blk) (by omega) (unhide HO).ones ?_
  intro w2 hb2 hbut2
  refine ⟨hbut2.blk ((unhide H1).ne (unhide HB)) ((unhide H1).old (unhide HB)), ?_⟩
  simp only [Act.put]
  refine wpTail_nil ?_
  have HB2 := hide hb2
  have HBUT2 := hide hbut2
  clear hb2 hbut2
  go_wp2
  refine bodyPost_ret (results_cell rfl _ _ g1 90 rfl Trym.agg53 v ((unhide HB2).congr (fun j hj => put_all 90 _ _ j hj))) rfl ?_
  exact ⟨rfl, (unhide HBUT2).below' (w0 := w) (below_drew (unhide H1).below) (by rw [(unhide H1).at_]; exact Nat.le_refl _)⟩
end Go.Proofs.Qxb6602878aMods
