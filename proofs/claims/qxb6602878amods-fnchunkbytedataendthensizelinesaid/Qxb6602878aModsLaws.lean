/- Seat b6602878aM: laws on blocks of cells told by a function, and on whole values that are loaded, stored, built, copied. -/
import Derived.Test.Qxb6602878aModsProg
import Derived.WalkKit
import Derived.WalkSpells
import Derived.Laws.IdiomCopy
import Derived.StillTailTactics
namespace Go.Proofs.Qxb6602878aMods
open Go.RowKit

theorem hide {p : Prop} (h : p) : Hid p := h
theorem unhide {p : Prop} (h : Hid p) : p := h

/-- The row f 0, .., f (n - 1). -/
def arr (n : Nat) (f : Nat → Value) : Array Value := ((List.range n).map f).toArray
theorem size_arr (n : Nat) (f : Nat → Value) : (arr n f).size = n := by simp [arr]
theorem get_arr (n : Nat) (f : Nat → Value) (i : Nat) (h : i < n) : (arr n f)[i]? = some (f i) := by simp [arr, h]
theorem arr_ext (n : Nat) (f : Nat → Value) (c : Array Value) (hs : c.size = n) (h : ∀ i, i < n → c[i]? = some (f i)) : c = arr n f := by
  apply Array.ext_getElem?
  intro i
  by_cases hi : i < n
  · rw [h i hi, get_arr n f i hi]
  · rw [Array.getElem?_eq_none (by omega), Array.getElem?_eq_none (by rw [size_arr]; omega)]
theorem arr_congr (n : Nat) (f g : Nat → Value) (h : ∀ i, i < n → f i = g i) : arr n f = arr n g :=
  arr_ext n g _ (size_arr n f) (fun i hi => by rw [get_arr n f i hi, h i hi])
theorem arr_one (x : Value) : #[x] = arr 1 (fun _ => x) := by simp [arr]

/-- Block g is a row of n cells, told by v, that may be written. -/
def Blk (w : World) (g n : Nat) (v : Nat → Value) : Prop := ∃ t, w.heap[g]? = some (.cells (arr n v) t (0, 0))

theorem Blk.lt {w : World} {g n : Nat} {v : Nat → Value} (h : Blk w g n v) : g < w.heap.size := by
  obtain ⟨t, h⟩ := h
  exact (Array.getElem?_eq_some_iff.1 h).1
theorem Blk.cell {w : World} {g n : Nat} {v : Nat → Value} (h : Blk w g n v) (i : Nat) (hi : i < n) : w.cell? ⟨g, i, none⟩ = some (v i) := by
  obtain ⟨t, h⟩ := h
  rw [cell_of_row w g i _ t _ h, get_arr n v i hi]
theorem Blk.frozen {w : World} {g n : Nat} {v : Nat → Value} (h : Blk w g n v) (i : Nat) : w.frozen? ⟨g, i, none⟩ = false := by
  obtain ⟨t, h⟩ := h
  exact frozen_of_row w g i _ t h
theorem Blk.congr {w : World} {g n : Nat} {v v' : Nat → Value} (h : Blk w g n v) (hv : ∀ i, i < n → v i = v' i) : Blk w g n v' := by
  obtain ⟨t, h⟩ := h
  exact ⟨t, by rw [h, arr_congr n v v' hv]⟩
theorem Blk.of_block {w w' : World} {g n : Nat} {v : Nat → Value} (h : Blk w g n v) (hb : w'.heap[g]? = w.heap[g]?) : Blk w' g n v := by
  obtain ⟨t, h⟩ := h
  exact ⟨t, by rw [hb, h]⟩
theorem Blk.setCell {w : World} {g n : Nat} {v : Nat → Value} (h : Blk w g n v) (i : Nat) (x : Value) : Blk (w.setCell ⟨g, i, none⟩ x) g n (fun j => if j = i then x else v j) := by
  obtain ⟨t, h⟩ := h
  refine ⟨t, ?_⟩
  rw [heap_setCell_same w g i _ t x h]
  congr 2
  refine arr_ext n _ _ (by simp [size_arr]) (fun j hj => ?_)
  rw [Array.getElem?_setIfInBounds]
  by_cases e : i = j
  · subst e; simp [size_arr, hj]
  · rw [if_neg e, if_neg (fun h => e h.symm), get_arr n v j hj]

/-- w' is w but for block g. -/
structure But (g : Nat) (w w' : World) : Prop where
  os : w'.os = w.os
  tape : w'.tape = w.tape
  output : w'.output = w.output
  size : w'.heap.size = w.heap.size
  block : ∀ k, k ≠ g → w'.heap[k]? = w.heap[k]?
theorem But.refl (g : Nat) (w : World) : But g w w := ⟨rfl, rfl, rfl, rfl, fun _ _ => rfl⟩
theorem But.drew {g : Nat} {w w' : World} (h : But g w w') : But g w w'.drew := ⟨h.os, h.tape, h.output, h.size, h.block⟩
theorem But.trans {g : Nat} {a b c : World} (h : But g a b) (k : But g b c) : But g a c :=
  ⟨k.os.trans h.os, k.tape.trans h.tape, k.output.trans h.output, k.size.trans h.size, fun i hi => (k.block i hi).trans (h.block i hi)⟩
theorem But.setCell {g : Nat} {w w' : World} (h : But g w w') (i : Nat) (v : Value) : But g w (w'.setCell ⟨g, i, none⟩ v) :=
  ⟨h.os, h.tape, h.output, by simpa [World.setCell] using h.size, fun k hk => (Below.heap_setCell w' ⟨g, i, none⟩ v k hk).trans (h.block k hk)⟩
theorem But.blk {g : Nat} {w w' : World} (h : But g w w') {b n : Nat} {v : Nat → Value} (hb : b ≠ g) (hi : Blk w b n v) : Blk w' b n v := hi.of_block (h.block b hb)
theorem But.below {g : Nat} {w w' : World} (h : But g w w') (B : Nat) (hB : B ≤ g) : Below B w w' :=
  ⟨h.os, h.tape, h.output, Nat.le_of_eq h.size.symm, fun k hk => h.block k (by omega)⟩
theorem below_blk {B : Nat} {w w' : World} (h : Below B w w') {b n : Nat} {v : Nat → Value} (hb : b < B) (hi : Blk w b n v) : Blk w' b n v := hi.of_block (h.block b hb)

/-- k places from off on are turned to f. -/
def put (off k : Nat) (f v : Nat → Value) (j : Nat) : Value := if off ≤ j ∧ j < off + k then f (j - off) else v j

theorem put_succ (off k : Nat) (f v : Nat → Value) (j : Nat) : put (off + 1) k (fun i => f (i + 1)) (fun j => if j = off then f 0 else v j) j = put off (k + 1) f v j := by
  unfold put
  simp only []
  by_cases h1 : j = off
  · subst h1
    rw [if_neg (by omega), if_pos rfl, if_pos (by omega), Nat.sub_self]
  · by_cases h2 : off + 1 ≤ j ∧ j < off + 1 + k
    · rw [if_pos h2, if_pos (by omega), show j - (off + 1) + 1 = j - off by omega]
    · rw [if_neg h2, if_neg h1, if_neg (by omega)]

theorem map_range_succ (k : Nat) (f : Nat → Value) : (List.range (k + 1)).map f = f 0 :: (List.range k).map (fun i => f (i + 1)) := by
  rw [List.range_succ_eq_map]; simp [Function.comp_def]

/-- A row of cells stored into a block. -/
theorem setCells_blk (g n : Nat) : ∀ (k off : Nat) (f v : Nat → Value) (w : World), Blk w g n v → Blk (w.setCells g off ((List.range k).map f)) g n (put off k f v) ∧ But g w (w.setCells g off ((List.range k).map f))
  | 0, off, f, v, w, h => ⟨h.congr (fun j _ => by unfold put; rw [if_neg (by omega)]), But.refl g w⟩
  | k + 1, off, f, v, w, h => by
    rw [map_range_succ]
    have ih := setCells_blk g n k (off + 1) (fun i => f (i + 1)) _ _ (h.setCell off (f 0))
    exact ⟨ih.1.congr (fun j _ => put_succ off k f v j), ((But.refl g w).setCell off (f 0)).trans ih.2⟩

/-- Values of one cell. -/
def Ones (k : Nat) (f : Nat → Value) : Prop := ∀ i, i < k → (f i).oneCell' = true

theorem mem_range_map {k : Nat} {f : Nat → Value} (h1 : Ones k f) : ∀ v ∈ (List.range k).map f, v.oneCell' = true := by
  intro v hv
  obtain ⟨i, hi, rfl⟩ := List.mem_map.1 hv
  exact h1 i (List.mem_range.1 hi)

theorem range_get {k : Nat} {f : Nat → Value} {j : Nat} {v : Value} (h : ((List.range k).map f)[j]? = some v) : j < k ∧ f j = v := by
  rw [List.getElem?_map] at h
  by_cases hj : j < k
  · rw [List.getElem?_range hj] at h
    exact ⟨hj, by simpa using h⟩
  · rw [List.getElem?_eq_none (by simpa using hj)] at h
    simp at h

section
variable {P : Program}

/-! ### copy -/
/-- 'copy(dst, src)': m cells from off on in block g. -/
theorem run_copy_blk (w : World) (t ty e : TypeId) (h1 : P.underlying t = some (.slice e)) (h2 : (P.info? e).map (·.size) = some 1) (g n : Nat) (v : Nat → Value) (hb : Blk w g n v)
    (dp sp : Option Addr) (off dl dc sl sc m : Nat) (f : Nat → Value) (hm : m = Nat.min sl dl) (hpos : 0 < m → dp = some ⟨g, off, none⟩ ∧ ∃ ad, sp = some ad ∧ ∀ j, j < m → w.cell? (ad.add j) = some (f j)) (hfit : off + m ≤ n) (ho : Ones m f) :
    ∃ w', (Builtin.copy_ #[t, t] ty #[.slice dp dl dc, .slice sp sl sc]).run P w = .ok (goInt m) w' ∧ Blk w' g n (put off m f v) ∧ But g w w' := by
  by_cases h0 : m = 0
  · subst h0
    exact ⟨w, by simpa using run_copy_none (P := P) w t t ty e dp sp dl dc sl sc h1 h2 hm.symm, hb.congr (fun j _ => by unfold put; rw [if_neg (by omega)]), But.refl g w⟩
  · obtain ⟨rfl, ad, rfl, hsrc⟩ := hpos (by omega)
    have hlen : ((List.range m).map f).length = m := by simp
    have hr := run_copy_cells (P := P) w t t ty e g off dl dc ad sl sc ((List.range m).map f) h1 h2 (by rw [hlen]; exact hm)
      (fun j u hu => by obtain ⟨hj, rfl⟩ := range_get hu; exact hsrc j hj)
      (fun j hj => by rw [hlen] at hj; rw [hb.cell (off + j) (by omega)]; rfl) (fun j hj => hb.frozen (off + j)) (mem_range_map ho)
    rw [hlen] at hr
    exact ⟨_, hr, (setCells_blk g n m off f v w hb).1, (setCells_blk g n m off f v w hb).2⟩

theorem wpList_copy_blk {w : World} {ops : Array Oper} {rest : List Oper} {o : Oper} {a : Act} {Q : Exit → Act → World → Prop}
    (hg : o.guard = none) (d s : Operand) (t : TypeId) (hop : o.op = .call { callee := .builtin .copy, args := #[d, s], argTypes := #[t, t] }) (e : TypeId) (h1 : P.underlying t = some (.slice e)) (h2 : (P.info? e).map (·.size) = some 1) (g n : Nat) (v : Nat → Value) (hb : Blk w g n v)
    (dp sp : Option Addr) (off dl dc sl sc m : Nat) (f : Nat → Value) (hd : a.eval d = .slice dp dl dc) (hs : a.eval s = .slice sp sl sc) (hm : m = Nat.min sl dl)
    (hpos : 0 < m → dp = some ⟨g, off, none⟩ ∧ ∃ ad, sp = some ad ∧ ∀ j, j < m → w.cell? (ad.add j) = some (f j)) (hfit : off + m ≤ n) (ho : Ones m f)
    (hK : ∀ w', Blk w' g n (put off m f v) → But g w w' → wpList P ops Q rest (a.put o.dst (.int .i64 (m : Int))) w') : wpList P ops Q (o :: rest) a w := by
  refine wpList_plain hg fun K hK' => ?_
  obtain ⟨w', hr, hb', hbut⟩ := run_copy_blk (P := P) w t o.type e h1 h2 g n v hb dp sp off dl dc sl sc m f hm hpos hfit ho
  unfold Oper.wp
  simp [execOp, hop, resolve, invoke, builtin, hd, hs, hr, Result.andThen]
  exact hK' _ _ (hK w' hb' hbut)

/-! ### whole values -/
/-- A struct or an array type of n cells. -/
def Agg (P : Program) (t : TypeId) (n : Nat) : Prop := ∃ d, P.underlying t = some d ∧ (match d with | .struct _ | .array _ _ => true | _ => false) = true ∧ (P.info? t).map (·.size) = some n

theorem run_isAgg {t : TypeId} {n : Nat} (h : Agg P t n) (w : World) : (isAgg t).run P w = .ok true w := by
  obtain ⟨d, hu, hd, _⟩ := h
  unfold isAgg
  rw [Sem.run_bind, run_underlying hu w]
  cases d <;> simp_all
theorem run_sizeOf_agg {t : TypeId} {n : Nat} (h : Agg P t n) (w : World) : (sizeOf t).run P w = .ok n w := by
  obtain ⟨d, hu, hd, hi⟩ := h
  obtain ⟨i, hi, hs⟩ := Option.map_eq_some_iff.1 hi
  simp [sizeOf, typeInfo, hi, hs]

theorem run_load_agg {t : TypeId} {n : Nat} (h : Agg P t n) (w : World) (g off : Nat) (f : Nat → Value) (hc : ∀ j, j < n → w.cell? ⟨g, off + j, none⟩ = some (f j)) :
    (loadVar t ⟨g, off, none⟩).run P w = .ok (.agg (arr n f)) w := by
  have hl : (loadCells ⟨g, off, none⟩ ((List.range n).map f).length).run P w = .ok ((List.range n).map f).toArray w :=
    run_loadCells_list (P := P) w ⟨g, off, none⟩ ((List.range n).map f) (fun j v hv => by
      obtain ⟨hj, rfl⟩ := range_get hv
      rw [Addr.add_lit]
      exact hc j hj)
  simp only [List.length_map, List.length_range] at hl
  simp [loadVar, Sem.run_bind, run_isAgg h w, run_sizeOf_agg h w, hl, arr]

theorem run_loadAt_agg {t : TypeId} {n : Nat} (h : Agg P t n) (w : World) (g off : Nat) (f : Nat → Value) (hc : ∀ j, j < n → w.cell? ⟨g, off + j, none⟩ = some (f j)) :
    (Instr.loadAt t (.pointer (some ⟨g, off, none⟩))).run P w = .ok (.agg (arr n f)) w := by
  simp only [Instr.loadAt, Instr.sureAddr, Sem.run_bind, Sem.run_pure, Result.andThen_ok]
  exact run_load_agg h w g off f hc

theorem wpList_load_agg {w : World} {ops : Array Oper} {rest : List Oper} {o : Oper} {a : Act} {Q : Exit → Act → World → Prop} (hgd : o.guard = none) (t : TypeId) (x : Operand) (ho : o.op = .load t x) {n : Nat} (h : Agg P t n)
    (g off : Nat) (hx : a.eval x = .pointer (some ⟨g, off, none⟩)) (f : Nat → Value) (hc : ∀ j, j < n → w.cell? ⟨g, off + j, none⟩ = some (f j))
    (hK : wpList P ops Q rest (a.put o.dst (.agg (arr n f))) w) : wpList P ops Q (o :: rest) a w := by
  refine wpList_plain hgd fun K hK' => ?_
  unfold Oper.wp
  simp only [execOp, ho, hx, Sem.run_bind, run_loadAt_agg h w g off f hc]
  exact hK' _ _ hK

theorem run_storeAt_agg {t : TypeId} {n : Nat} (h : Agg P t n) (w : World) (g off m : Nat) (f v : Nat → Value) (hb : Blk w g m v) (hfit : off + n ≤ m) (ho : Ones n f) :
    ∃ w', (Instr.storeAt t (.pointer (some ⟨g, off, none⟩)) (.agg (arr n f))).run P w = .ok () w' ∧ Blk w' g m (put off n f v) ∧ But g w w' := by
  have hlen : ((List.range n).map f).length = n := by simp
  have hst := run_storeCells_cells (P := P) g off ((List.range n).map f) 0 w (fun j hj => by rw [hlen] at hj; rw [hb.cell _ (by omega)]; rfl) (fun j hj => hb.frozen _) (mem_range_map ho)
  refine ⟨w.setCells g off ((List.range n).map f), ?_, (setCells_blk g m n off f v w hb).1, (setCells_blk g m n off f v w hb).2⟩
  simp only [Instr.storeAt, Instr.sureAddr, Sem.run_bind, Sem.run_pure, Result.andThen_ok, storeVar, run_sizeOf_agg h w, Value.cells, size_arr]
  simp only [ne_eq, not_true_eq_false, if_false]
  simpa [arr] using hst

theorem wpList_store_agg {w : World} {ops : Array Oper} {rest : List Oper} {o : Oper} {a : Act} {Q : Exit → Act → World → Prop} (hgd : o.guard = none) (t : TypeId) (x y : Operand) (ho : o.op = .store t x y) {n : Nat} (h : Agg P t n)
    (g off m : Nat) (f v : Nat → Value) (hx : a.eval x = .pointer (some ⟨g, off, none⟩)) (hy : a.eval y = .agg (arr n f)) (hb : Blk w g m v) (hfit : off + n ≤ m) (h1 : Ones n f)
    (hK : ∀ w', Blk w' g m (put off n f v) → But g w w' → wpList P ops Q rest (a.put o.dst undef) w') : wpList P ops Q (o :: rest) a w := by
  refine wpList_plain hgd fun K hK' => ?_
  obtain ⟨w', hr, hb', hbut⟩ := run_storeAt_agg h w g off m f v hb hfit h1
  unfold Oper.wp
  simp only [execOp, ho, hx, hy, Sem.run_bind, hr]
  exact hK' _ _ (hK w' hb' hbut)

/-- 'var x T' and its like: a new block of n cells. -/
theorem wpList_alloc_agg {w : World} {ops : Array Oper} {rest : List Oper} {o : Oper} {a : Act} {Q : Exit → Act → World → Prop} (hgd : o.guard = none) (t : TypeId) (ho : o.op = .alloc t) (n : Nat) (hz : (P.info? t).map (fun i => i.zero.map (fun z => z.cells.size)) = some (some n))
    (hK : ∀ w' v, Blk w' w.heap.size n v → Below w.heap.size w w' → w'.heap.size = w.heap.size + 1 → wpList P ops Q rest (a.put o.dst (.pointer (some ⟨w.heap.size, 0, none⟩))) w') : wpList P ops Q (o :: rest) a w := by
  refine wpList_plain hgd fun K hK' => ?_
  obtain ⟨i, hi, hz⟩ := Option.map_eq_some_iff.1 hz
  obtain ⟨z, hz, hn⟩ := Option.map_eq_some_iff.1 hz
  have hr : (Instr.alloc t true (.tuple #[])).run P w = .ok (.pointer (some ⟨w.heap.size, 0, none⟩)) (w.alloc (.cells z.cells t)) := by
    simp [Instr.alloc, zeroValue, typeInfo, hi, hz, newVar, newRow]
  unfold Oper.wp
  simp only [execOp, ho, Sem.run_bind, hr]
  refine hK' _ _ (hK _ (fun j => z.cells.getD j undef) ⟨t, ?_⟩ ((Below.refl _ _).alloc (Nat.le_refl _) _) (by simp))
  rw [heap_alloc_new]
  congr 2
  exact arr_ext n _ _ hn (fun j hj => by simp [Array.getD, hn ▸ hj])
end
end Go.Proofs.Qxb6602878aMods
