/- Seat b6602878aM: laws, second part: new blocks under a name; a struct built out of parts; the clone of a byte slice. -/
import Derived.Test.Qxb6602878aModsHeld
namespace Go.Proofs.Qxb6602878aMods
open Go.RowKit

/-- w' is w and one new block g of n cells, told by v. -/
structure NewB (w w' : World) (g n : Nat) (v : Nat → Value) : Prop where
  at_ : g = w.heap.size
  below : Below w.heap.size w w'
  size : w'.heap.size = w.heap.size + 1
  blk : Blk w' g n v
theorem NewB.old {w w' : World} {g n : Nat} {v : Nat → Value} (h : NewB w w' g n v) {b m : Nat} {u : Nat → Value} (hb : Blk w b m u) : Blk w' b m u := below_blk h.below hb.lt hb
theorem NewB.ne {w w' : World} {g n : Nat} {v : Nat → Value} (h : NewB w w' g n v) {b m : Nat} {u : Nat → Value} (hb : Blk w b m u) : b ≠ g := by
  have := hb.lt
  have := h.at_
  omega
theorem NewB.below' {w0 w w' : World} {g n : Nat} {v : Nat → Value} (h : NewB w w' g n v) (hb : Below w0.heap.size w0 w) : Below w0.heap.size w0 w' := hb.trans (h.below.mono hb.size)
theorem But.below' {w0 w w' : World} {g : Nat} (h : But g w w') (hb : Below w0.heap.size w0 w) (hg : w0.heap.size ≤ g) : Below w0.heap.size w0 w' := hb.trans (h.below _ hg)

section
variable {P : Program}
theorem newB_alloc (w : World) (n : Nat) (f : Nat → Value) (t : TypeId) : NewB w (w.alloc (.cells (arr n f) t)) w.heap.size n f :=
  ⟨rfl, (Below.refl _ _).alloc (Nat.le_refl _) _, by simp, ⟨t, heap_alloc_new _ _⟩⟩

theorem wpList_box {w : World} {ops : Array Oper} {rest : List Oper} {o : Oper} {a : Act} {Q : Exit → Act → World → Prop} (hgd : o.guard = none) (t : TypeId) (x : Operand) (ho : o.op = .box t x) (n : Nat) (f : Nat → Value) (hx : a.eval x = .agg (arr n f))
    (hK : ∀ w' g, NewB w w' g n f → wpList P ops Q rest (a.put o.dst (.pointer (some ⟨g, 0, none⟩))) w') : wpList P ops Q (o :: rest) a w := by
  refine wpList_plain hgd fun K hK' => ?_
  have hr : (Instr.box t (.agg (arr n f))).run P w = .ok (.pointer (some ⟨w.heap.size, 0, none⟩)) (w.alloc (.cells (arr n f) t)) := by
    simp [Instr.box, newVar, newRow, Value.cells]
  unfold Oper.wp
  simp only [execOp, ho, hx, Sem.run_bind, hr]
  exact hK' _ _ (hK _ _ (newB_alloc w n f t))

theorem wpList_new {w : World} {ops : Array Oper} {rest : List Oper} {o : Oper} {a : Act} {Q : Exit → Act → World → Prop} (hgd : o.guard = none) (t : TypeId) (ho : o.op = .alloc t) (n : Nat) (hz : (P.info? t).map (fun i => i.zero.map (fun z => z.cells.size)) = some (some n))
    (hK : ∀ w' g v, NewB w w' g n v → wpList P ops Q rest (a.put o.dst (.pointer (some ⟨g, 0, none⟩))) w') : wpList P ops Q (o :: rest) a w :=
  wpList_alloc_agg hgd t ho n hz (fun w' v hb hbel hs => hK w' _ v ⟨rfl, hbel, hs, hb⟩)

theorem wpList_build {w : World} {ops : Array Oper} {rest : List Oper} {o : Oper} {a : Act} {Q : Exit → Act → World → Prop} (hgd : o.guard = none) (t : TypeId) (parts : Array (Nat × Operand)) (ho : o.op = .build t parts) (vals : List (Nat × Value)) (hv : parts.toList.map (fun q => (q.1, a.eval q.2)) = vals)
    (v : Value) (hr : (Instr.build t vals.toArray).run P w = .ok v w) (hK : wpList P ops Q rest (a.put o.dst v) w) : wpList P ops Q (o :: rest) a w := by
  refine wpList_plain hgd fun K hK' => ?_
  have e : (parts.map fun (x : Nat × Operand) => (x.1, a.eval x.2)) = vals.toArray := by
    rw [← hv]; apply Array.ext'; simp
  unfold Oper.wp
  simp only [execOp, ho, e, Sem.run_bind, hr]
  exact hK' _ _ hK
end

section
variable {P : Program}
theorem wpStill_load_agg {w : World} {ops : Array Oper} {rest : List Oper} {o : Oper} {a : Act} {Q : Act → Prop} (hgd : o.guard = none) (t : TypeId) (x : Operand) (ho : o.op = .load t x) {n : Nat} (h : Agg P t n)
    (g off : Nat) (hx : a.eval x = .pointer (some ⟨g, off, none⟩)) (f : Nat → Value) (hc : ∀ j, j < n → w.cell? ⟨g, off + j, none⟩ = some (f j))
    (hK : wpStill P ops w Q rest (a.put o.dst (.agg (arr n f)))) : wpStill P ops w Q (o :: rest) a := by
  refine wpStill_step fun K hK' => ?_
  simp only [Region.wanted, hgd, if_true]
  unfold Oper.still
  simp only [execOp, ho, hx, Sem.run_bind, run_loadAt_agg h w g off f hc]
  exact ⟨rfl, hK' _ hK⟩
end

/-- Bytes as values. -/
def by8 (F : Nat → Int) (i : Nat) : Value := .int .u8 (F i)
theorem ones_by8 (k : Nat) (F : Nat → Int) : Ones k (by8 F) := fun _ _ => rfl

/-! ### a struct out of its parts -/
theorem foldl_put (m : Nat) : ∀ (k off i : Nat) (f v : Nat → Value), off + i + k ≤ m →
    (((List.range k).map f).zipIdx i).foldl (fun (cs : Array Value) (x : Value × Nat) => cs.setIfInBounds (off + x.2) x.1) (arr m v) = arr m (put (off + i) k f v)
  | 0, off, i, f, v, _ => by
    simp only [List.range_zero, List.map_nil, List.zipIdx_nil, List.foldl_nil]
    exact arr_congr m _ _ (fun j _ => by unfold put; rw [if_neg (by omega)])
  | k + 1, off, i, f, v, h => by
    rw [map_range_succ]
    simp only [List.zipIdx_cons, List.foldl_cons]
    have e : (arr m v).setIfInBounds (off + i) (f 0) = arr m (fun j => if j = off + i then f 0 else v j) := by
      refine arr_ext m _ _ (by simp [size_arr]) (fun j hj => ?_)
      rw [Array.getElem?_setIfInBounds]
      by_cases e : off + i = j
      · subst e; simp [size_arr, hj]
      · rw [if_neg e, if_neg (fun h => e h.symm), get_arr m v j hj]
    rw [e, foldl_put m k off (i + 1) (fun i => f (i + 1)) _ (by omega)]
    exact arr_congr m _ _ (fun j _ => put_succ (off + i) k f v j)

theorem fill_step (place : Nat → Option (Nat × Nat)) (m : Nat) (v : Nat → Value) (i : Nat) (x : Value) (rest : List (Nat × Value)) (off k : Nat) (f : Nat → Value) (hp : place i = some (off, k)) (hx : x.cells = arr k f) (hfit : off + k ≤ m) :
    Instr.fill place (arr m v) ((i, x) :: rest) = Instr.fill place (arr m (put off k f v)) rest := by
  have hsz : x.cells.size = k := by rw [hx, size_arr]
  rw [Instr.fill, hp]
  simp only [hsz, size_arr]
  rw [if_neg (by simp; omega)]
  congr 1
  have := foldl_put m k off 0 f v (by omega)
  rw [Nat.add_zero] at this
  rw [← this, hx]
  simp [arr]

theorem agg_cells (n : Nat) (f : Nat → Value) : (Value.agg (arr n f)).cells = arr n f := rfl
theorem int_cells (k : IntKind) (x : Int) : (Value.int k x).cells = arr 1 (fun _ => .int k x) := arr_one _
theorem bool_cells (x : Bool) : (Value.bool x).cells = arr 1 (fun _ => .bool x) := arr_one _
theorem slice_cells (a : Option Addr) (n c : Nat) : (Value.slice a n c).cells = arr 1 (fun _ => .slice a n c) := arr_one _

theorem zero_arr (z : Array Value) (n : Nat) (h : z.size = n) : z = arr n (fun j => z.getD j undef) := arr_ext n _ _ h (fun j hj => by simp [Array.getD, h ▸ hj])

theorem build49 (n : Int) (F L : Nat → Int) (w : World) :
    (Instr.build 49 [(0, .int .i64 n), (1, .agg (arr 64 (by8 F))), (2, .agg (arr 9 (by8 L)))].toArray).run Trym.prog w = .ok (.agg (arr 74 (line n F L))) w := by
  have hz : ∃ z : Value, (zeroValue 49).run Trym.prog w = .ok z w ∧ z.cells.size = 74 := by
    have h : (Trym.prog.info? 49).map (fun i => i.zero.map (fun z => z.cells.size)) = some (some 74) := by kernel_rfl
    obtain ⟨i, hi, hz⟩ := Option.map_eq_some_iff.1 h
    obtain ⟨z, hz, hn⟩ := Option.map_eq_some_iff.1 hz
    exact ⟨z, by simp [zeroValue, typeInfo, hi, hz], hn⟩
  obtain ⟨z, hz, hs⟩ := hz
  have hpl : ∀ (fs : Array Field), Trym.prog.underlying 49 = some (.struct fs) → (fs.mapM fun f => do pure (f.offset, ← sizeOf f.type) : Sem (Array (Nat × Nat))).run Trym.prog w = .ok #[(0, 1), (1, 64), (65, 9)] w := by
    intro fs h
    rw [Trym.underlying49] at h
    injection h with h
    injection h with h
    subst h
    kernel_rfl
  have hu := Trym.underlying49
  generalize hfs : (#[_, _, _] : Array Field) = fs at hu
  have hp := hpl fs hu
  simp only [Instr.build, Sem.run_bind, hz, Result.andThen_ok, run_underlying hu, hp]
  rw [zero_arr z.cells 74 hs]
  rw [fill_step _ 74 _ 0 _ _ 0 1 _ rfl (int_cells _ _) (by omega), fill_step _ 74 _ 1 _ _ 1 64 _ rfl (agg_cells _ _) (by omega), fill_step _ 74 _ 2 _ _ 65 9 _ rfl (agg_cells _ _) (by omega)]
  simp only [Instr.fill, Sem.run_pure]
  rw [arr_congr 74 _ (line n F L)]
  intro j hj
  unfold put line by8
  by_cases h0 : j = 0
  · subst h0; simp
  · by_cases h1 : j < 65
    · rw [if_neg (by omega), if_pos (by omega), if_neg h0, if_pos h1]
    · rw [if_pos (by omega), if_neg h0, if_neg h1]

theorem add_any (g : Nat) (n : Int) (F L p : Nat → Int) (l : Nat) (pa : Option Addr) (w : World) (h0 : 0 ≤ n) (hl : l ≤ 1048576) (hb : Blk w g 74 (line n F L)) (hp : Src w g pa l p) :
    Calls Trym.prog 23 #[.pointer (some ⟨g, 0, none⟩), .slice pa l l] w fun e w' => e = .returned (.tuple #[]) ∧ Blk w' g 74 (line (wrap64 (n + l)) (newF n l F p) (newL l L p)) ∧ But g w w' := by
  by_cases h9 : l < 9
  · by_cases hn : n < 64
    · obtain ⟨m, rfl⟩ := Int.eq_ofNat_of_zero_le h0
      exact add_B g F L p l m pa w hl (by omega) h9 hb hp
    · exact add_D g F L p l n pa w hl (by omega) h9 hb hp
  · rcases hp with h | ⟨b, rfl, hbg, hpb⟩
    · omega
    · by_cases hn : n < 64
      · obtain ⟨m, rfl⟩ := Int.eq_ofNat_of_zero_le h0
        exact add_A g F L p l m b w hl (by omega) (by omega) hb hbg hpb
      · exact add_C g F L p l n b w hl (by omega) (by omega) hb hbg hpb

theorem Trym.agg22 : Agg Trym.prog 22 64 := ⟨_, Trym.underlying22, rfl, by kernel_rfl⟩
theorem Trym.agg23 : Agg Trym.prog 23 9 := ⟨_, Trym.underlying23, rfl, by kernel_rfl⟩
theorem Trym.agg49 : Agg Trym.prog 49 74 := ⟨_, Trym.underlying49, rfl, by kernel_rfl⟩
theorem Trym.zero22 : (Trym.prog.info? 22).map (fun i => i.zero.map (fun z => z.cells.size)) = some (some 64) := by kernel_rfl
theorem Trym.zero23 : (Trym.prog.info? 23).map (fun i => i.zero.map (fun z => z.cells.size)) = some (some 9) := by kernel_rfl
theorem Trym.zero49 : (Trym.prog.info? 49).map (fun i => i.zero.map (fun z => z.cells.size)) = some (some 74) := by kernel_rfl

theorem Blk.cells0 {w : World} {g n : Nat} {v : Nat → Value} (h : Blk w g n v) : ∀ j, j < n → w.cell? ⟨g, 0 + j, none⟩ = some (v j) := fun j hj => by rw [Nat.zero_add]; exact h.cell j hj
theorem Blk.part {w : World} {g n : Nat} {v : Nat → Value} (h : Blk w g n v) (off k : Nat) (f : Nat → Value) (hfit : off + k ≤ n) (hv : ∀ j, j < k → v (off + j) = f j) : ∀ j, j < k → w.cell? ⟨g, off + j, none⟩ = some (f j) := fun j hj => by rw [← hv j hj]; exact h.cell _ (by omega)

theorem ones_line (k : Nat) (n : Int) (F L : Nat → Int) : Ones k (line n F L) := fun i _ => by
  unfold line; split
  · rfl
  · split <;> rfl

theorem Trym.field49_0 : fieldOff Trym.prog 49 0 = some 0 := by kernel_rfl
theorem Trym.field49_1 : fieldOff Trym.prog 49 1 = some 1 := by kernel_rfl
theorem Trym.field49_2 : fieldOff Trym.prog 49 2 = some 65 := by kernel_rfl
theorem Trym.single3 : single Trym.prog 3 = true := by kernel_rfl

theorem Src.below {w w' : World} {g : Nat} {pa : Option Addr} {l : Nat} {p : Nat → Int} (h : Src w g pa l p) (hb : Below w.heap.size w w') : Src w' g pa l p := by
  rcases h with h | ⟨b, h1, h2, h3⟩
  · exact .inl h
  · exact .inr ⟨b, h1, h2, below_blk hb h3.lt h3⟩
theorem put_all (n : Nat) (f v : Nat → Value) (j : Nat) (hj : j < n) : put 0 n f v j = f j := by
  unfold put; rw [if_pos (by omega), Nat.sub_zero]

/-- What stands behind the call of add. -/
structure ST (w w7 : World) (g3 g4 g5 : Nat) (v3 v4 v5 : Nat → Value) : Prop where
  below : Below w.heap.size w w7
  b3 : Blk w7 g3 64 v3
  b4 : Blk w7 g4 9 v4
  b5 : Blk w7 g5 74 v5
  ne34 : g3 ≠ g4
  ne35 : g3 ≠ g5
  ne45 : g4 ≠ g5
  le3 : w.heap.size ≤ g3
  le4 : w.heap.size ≤ g4

set_option linter.unusedSimpArgs false in
set_option maxHeartbeats 1000000 in
theorem zz10 (n : Int) (F L p : Nat → Int) (l : Nat) (pa : Option Addr) (w : World) (h0 : 0 ≤ n) (hl : l ≤ 1048576) (hp : ∀ g, w.heap.size ≤ g → Src w g pa l p) :
    Calls Trym.prog 10 #[.int .i64 n, .agg (arr 64 (by8 F)), .agg (arr 9 (by8 L)), .slice pa l l] w fun e w' =>
      e = .returned (.tuple #[.int .i64 (wrap64 (n + l)), .agg (arr 64 (by8 (newF n l F p))), .agg (arr 9 (by8 (newL l L p)))]) ∧ Below w.heap.size w w' := by
  have HP := hide hp
  clear hp
  go_enter Trym.func10, Trym.ntmps10
  go_wp2_with (first
    | (refine wpList_box rfl 22 _ rfl 64 (by8 F) rfl ?_; intro w1 g1 h1; have H1 := hide h1; clear h1)
    | (refine wpList_box rfl 23 _ rfl 9 (by8 L) rfl ?_; intro w2 g2 h2; have H2 := hide h2; clear h2)
    | (refine wpList_new rfl 22 rfl 64 Trym.zero22 ?_; intro w3 g3 v3 h3; have H3 := hide h3; clear h3)
    | (refine wpList_new rfl 23 rfl 9 Trym.zero23 ?_; intro w4 g4 v4 h4; have H4 := hide h4; clear h4)
    | (refine wpList_load_agg rfl 22 _ rfl Trym.agg22 g1 0 rfl (by8 F) ((unhide H4).old ((unhide H3).old ((unhide H2).old (unhide H1).blk))).cells0 ?_)
    | (refine wpList_load_agg rfl 23 _ rfl Trym.agg23 g2 0 rfl (by8 L) ((unhide H4).old ((unhide H3).old (unhide H2).blk)).cells0 ?_)
    | (refine wpList_build rfl 49 _ rfl [(0, .int .i64 n), (1, .agg (arr 64 (by8 F))), (2, .agg (arr 9 (by8 L)))] rfl _ (build49 n F L _) ?_)
    | (refine wpList_new rfl 49 rfl 74 Trym.zero49 ?_; intro w5 g5 v5 h5; have H5 := hide h5; clear h5)
    | (refine wpList_store_agg rfl 49 _ _ rfl Trym.agg49 g5 0 74 (line n F L) v5 rfl rfl (unhide H5).blk (by omega) (ones_line _ _ _ _) ?_; intro w6 hb6 hbut6; have HB6 := hide hb6; have HBUT6 := hide hbut6; clear hb6 hbut6))
  have hsrc : Src w6 g5 pa l p := by
    have hle : w.heap.size ≤ g5 := by
      have e1 := (unhide H1).size; have e2 := (unhide H2).size; have e3 := (unhide H3).size; have e4 := (unhide H4).size; have e5 := (unhide H5).at_
      omega
    refine (unhide HP g5 hle).below ?_
    exact (unhide HBUT6).below' ((unhide H5).below' ((unhide H4).below' ((unhide H3).below' ((unhide H2).below' (unhide H1).below)))) hle
  have hb6 : Blk w6 g5 74 (line n F L) := (unhide HB6).congr (fun j hj => put_all 74 _ _ j hj)
  refine (add_any g5 n F L p l pa w6 h0 hl hb6 hsrc).mono ?_
  rintro e w7 ⟨rfl, hb7, hbut7⟩
  have HS : Hid (ST w w7 g3 g4 g5 v3 v4 (line (wrap64 (n + l)) (newF n l F p) (newL l L p))) := by
    have k3 : Blk w7 g3 64 v3 := hbut7.blk ((unhide H5).ne ((unhide H4).old (unhide H3).blk)) ((unhide HBUT6).blk ((unhide H5).ne ((unhide H4).old (unhide H3).blk)) ((unhide H5).old ((unhide H4).old (unhide H3).blk)))
    have k4 : Blk w7 g4 9 v4 := hbut7.blk ((unhide H5).ne (unhide H4).blk) ((unhide HBUT6).blk ((unhide H5).ne (unhide H4).blk) ((unhide H5).old (unhide H4).blk))
    have e1 := (unhide H1).size; have e2 := (unhide H2).size; have e3 := (unhide H3).size; have e4 := (unhide H4).size; have e5 := (unhide H5).at_
    have a3 := (unhide H3).at_; have a4 := (unhide H4).at_
    have hle : w.heap.size ≤ g5 := by omega
    exact ⟨hbut7.below' ((unhide HBUT6).below' ((unhide H5).below' ((unhide H4).below' ((unhide H3).below' ((unhide H2).below' (unhide H1).below)))) hle) hle, k3, k4, hb7, by omega, by omega, by omega, by omega, by omega⟩
  clear hb7 hbut7 hsrc hb6 HB6 HBUT6 H1 H2 H3 H4 H5 HP
  have c7 : w7.cell? ⟨g5, 0, none⟩ = some (.int .i64 (wrap64 (n + l))) := (unhide HS).b5.cell 0 (by omega)
  go_wp2
  refine wp_region_held_tail 6 (fun w' => Blk w' g5 74 (line (wrap64 (n + l)) (newF n l F p) (newL l L p))) follows (fun c a d v w h => by cases d <;> exact h) (by kernel_rfl) (unhide HS).b5 ?_
  simp only [List.take_succ_cons, List.take_zero, List.drop_succ_cons, List.drop_zero]
  refine held_field rfl 49 _ 0 rfl Trym.field49_0 g5 0 rfl ?_
  simp only [Act.put, List.setIfInBounds_toArray, List.set_cons_zero, List.set_cons_succ]
  refine held_load rfl 3 _ rfl Trym.single3 g5 0 rfl (.int .i64 (wrap64 (n + l))) (fun w hw => hw.cell 0 (by omega)) ?_
  simp only [Act.put, List.setIfInBounds_toArray, List.set_cons_zero, List.set_cons_succ]
  refine held_field rfl 49 _ 1 rfl Trym.field49_1 g5 0 rfl ?_
  simp only [Act.put, List.setIfInBounds_toArray, List.set_cons_zero, List.set_cons_succ]
  refine held_load_agg rfl 22 _ rfl Trym.agg22 g5 1 rfl (by8 (newF n l F p)) (fun w hw => hw.part 1 64 _ (by omega) (fun j hj => line_first _ _ _ j hj)) ?_
  simp only [Act.put, List.setIfInBounds_toArray, List.set_cons_zero, List.set_cons_succ]
  refine held_field rfl 49 _ 2 rfl Trym.field49_2 g5 0 rfl ?_
  simp only [Act.put, List.setIfInBounds_toArray, List.set_cons_zero, List.set_cons_succ]
  refine held_load_agg rfl 23 _ rfl Trym.agg23 g5 65 rfl (by8 (newL l L p)) (fun w hw => hw.part 65 9 _ (by omega) (fun j hj => line_last _ _ _ j)) ?_
  simp only [Act.put, List.setIfInBounds_toArray, List.set_cons_zero, List.set_cons_succ]
  refine wpHeld_nil ?_
  refine tail_assign rfl _ rfl (.int .i64 (wrap64 (n + l))) rfl (unhide HS).b5 ?_
  simp only [Act.put, List.setIfInBounds_toArray, List.set_cons_zero, List.set_cons_succ]
  refine tail_store_agg rfl 22 _ _ rfl Trym.agg22 g3 0 64 (by8 (newF n l F p)) v3 rfl rfl (unhide HS).b3 (by omega) (ones_by8 _ _) ?_
  intro w8 hb8 hbut8
  refine ⟨hbut8.blk (unhide HS).ne35.symm (unhide HS).b5, ?_⟩
  simp only [Act.put, List.setIfInBounds_toArray, List.set_cons_zero, List.set_cons_succ]
  refine tail_store_agg rfl 23 _ _ rfl Trym.agg23 g4 0 9 (by8 (newL l L p)) v4 rfl rfl (hbut8.blk (unhide HS).ne34.symm (unhide HS).b4) (by omega) (ones_by8 _ _) ?_
  intro w9 hb9 hbut9
  refine ⟨hbut9.blk (unhide HS).ne45.symm (hbut8.blk (unhide HS).ne35.symm (unhide HS).b5), ?_⟩
  refine wpTail_nil ?_
  have q3 := (hbut9.blk (unhide HS).ne34 (hb8.congr (v' := by8 (newF n l F p)) (fun j hj => put_all 64 _ _ j hj))).cells0
  have q4 := (hb9.congr (v' := by8 (newL l L p)) (fun j hj => put_all 9 _ _ j hj)).cells0
  have BL : Hid (Below w.heap.size w w9) := hbut9.below' (hbut8.below' ⟨(unhide HS).below.os, (unhide HS).below.tape, (unhide HS).below.output, (unhide HS).below.size, (unhide HS).below.block⟩ (unhide HS).le3) (unhide HS).le4
  have l3 := run_load_agg Trym.agg22 w9 g3 0 _ q3
  have l4 := run_load_agg Trym.agg23 w9 g4 0 _ q4
  clear HS hb8 hbut8 hb9 hbut9 q3 q4 c7
  simp only [Act.put, List.setIfInBounds_toArray, List.set_cons_zero, List.set_cons_succ]
  go_wp2
  refine bodyPost_ret (v := .tuple #[.int .i64 (wrap64 (n + l)), .agg (arr 64 (by8 (newF n l F p))), .agg (arr 9 (by8 (newL l L p)))]) ?_ rfl ⟨rfl, unhide BL⟩
  simp [results, Trym.results10, asAddr, l3, l4]
end Go.Proofs.Qxb6602878aMods
