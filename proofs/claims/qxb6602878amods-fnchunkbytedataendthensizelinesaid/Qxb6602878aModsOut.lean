/- Seat b6602878aM: zzFramingOut: the framing copied cell by cell. -/
import Derived.Test.Qxb6602878aModsFrame
namespace Go.Proofs.Qxb6602878aMods
open Go.RowKit

/-- The first k cells of block g are those of v. -/
def Copied (w : World) (g : Nat) (v : Nat → Value) (k : Nat) : Prop := ∃ u, Blk w g 90 u ∧ ∀ j, j < k → u j = v j
theorem Copied.full {w : World} {g : Nat} {v : Nat → Value} (h : Copied w g v 90) : Blk w g 90 v := by
  obtain ⟨u, hb, hu⟩ := h
  exact hb.congr hu

section
variable {P : Program} {w : World} {ops : Array Oper} {rest : List Oper} {o : Oper} {a : Act} {Q : Exit → Act → World → Prop}
theorem wpList_load1 (hgd : o.guard = none) (t : TypeId) (x : Operand) (ho : o.op = .load t x) (ht : single P t = true) (g off n : Nat) (hx : a.eval x = .pointer (some ⟨g, off, none⟩)) (v : Nat → Value) (hb : Blk w g n v) (hn : off < n)
    (hK : wpList P ops Q rest (a.put o.dst (v off)) w) : wpList P ops Q (o :: rest) a w := by
  refine wpList_plain hgd fun K hK' => ?_
  unfold Oper.wp
  simp only [execOp, ho, hx, Sem.run_bind, run_loadAt_single ht g off _ w (hb.cell off hn)]
  exact hK' _ _ hK
theorem run_sizeOf_single {t : TypeId} (h : (P.info? t).map (·.size) = some 1) (w : World) : (sizeOf t).run P w = .ok 1 w := by
  obtain ⟨i, hi, hs⟩ := Option.map_eq_some_iff.1 h
  simp [sizeOf, typeInfo, hi, hs]
theorem wpList_store1 (hgd : o.guard = none) (t : TypeId) (x y : Operand) (ho : o.op = .store t x y) (ht : (P.info? t).map (·.size) = some 1) (g off m : Nat) (u : Nat → Value) (hx : a.eval x = .pointer (some ⟨g, off, none⟩)) (c : Value) (hy : a.eval y = c) (h1 : c.oneCell' = true ∧ c.cells = arr 1 (fun _ => c)) (hb : Blk w g m u) (hm : off < m)
    (hK : ∀ w', Blk w' g m (put off 1 (fun _ => c) u) → But g w w' → wpList P ops Q rest (a.put o.dst undef) w') : wpList P ops Q (o :: rest) a w := by
  refine wpList_plain hgd fun K hK' => ?_
  have hst := run_storeCells_cells (P := P) g off ((List.range 1).map (fun _ => c)) 0 w (fun j hj => by rw [hb.cell _ (by simp at hj; omega)]; rfl) (fun j hj => hb.frozen _) (mem_range_map (fun _ _ => h1.1))
  have hr : (Instr.storeAt t (.pointer (some ⟨g, off, none⟩)) c).run P w = .ok () (w.setCells g off ((List.range 1).map (fun _ => c))) := by
    simp only [Instr.storeAt, Instr.sureAddr, Sem.run_bind, Sem.run_pure, Result.andThen_ok, storeVar, run_sizeOf_single ht w, h1.2, size_arr]
    simp only [ne_eq, not_true_eq_false, if_false]
    simpa [arr] using hst
  unfold Oper.wp
  simp only [execOp, ho, hx, hy, Sem.run_bind, hr]
  exact hK' _ _ (hK _ (setCells_blk g m 1 off (fun _ => c) u w hb).1 (setCells_blk g m 1 off (fun _ => c) u w hb).2)

theorem wpList_copy1 (hgd : o.guard = none) (t : TypeId) (x y : Operand) (ho : o.op = .store t x y) (ht : (P.info? t).map (·.size) = some 1) (g k : Nat) (v : Nat → Value) (hx : a.eval x = .pointer (some ⟨g, k, none⟩)) (hy : a.eval y = v k) (h1 : One 90 v) (hc : Copied w g v k) (hk : k < 90)
    (hK : ∀ w', Copied w' g v (k + 1) → But g w w' → wpList P ops Q rest (a.put o.dst undef) w') : wpList P ops Q (o :: rest) a w := by
  obtain ⟨u, hb, hu⟩ := hc
  refine wpList_store1 hgd t x y ho ht g k 90 u hx (v k) hy (h1 k hk) hb hk (fun w' hb' hbut => hK w' ⟨_, hb', fun j hj => ?_⟩ hbut)
  unfold put
  by_cases e : j = k
  · subst e; rw [if_pos (by omega)]
  · rw [if_neg (by omega)]; exact hu j (by omega)
theorem wpList_copyA (hgd : o.guard = none) (t : TypeId) (x y : Operand) (ho : o.op = .store t x y) (n : Nat) (ht : Agg P t n) (g k : Nat) (v : Nat → Value) (hx : a.eval x = .pointer (some ⟨g, k, none⟩)) (hy : a.eval y = .agg (arr n (sh k v))) (h1 : One 90 v) (hc : Copied w g v k) (hk : k + n ≤ 90)
    (hK : ∀ w', Copied w' g v (k + n) → But g w w' → wpList P ops Q rest (a.put o.dst undef) w') : wpList P ops Q (o :: rest) a w := by
  obtain ⟨u, hb, hu⟩ := hc
  refine wpList_store_agg hgd t x y ho ht g k 90 (sh k v) u hx hy hb hk (fun j hj => (h1 (k + j) (by omega)).1) (fun w' hb' hbut => hK w' ⟨_, hb', fun j hj => ?_⟩ hbut)
  unfold put
  by_cases e : k ≤ j
  · rw [if_pos (by omega)]; unfold sh; congr 1; omega
  · rw [if_neg (by omega)]; exact hu j (by omega)
end

theorem Trym.size1_3 : (Trym.prog.info? 3).map (·.size) = some 1 := by kernel_rfl
theorem Trym.size1_4 : (Trym.prog.info? 4).map (·.size) = some 1 := by kernel_rfl
theorem Trym.size1_31 : (Trym.prog.info? 31).map (·.size) = some 1 := by kernel_rfl
theorem Trym.size1_32 : (Trym.prog.info? 32).map (·.size) = some 1 := by kernel_rfl

set_option maxHeartbeats 8000000 in
set_option maxRecDepth 20000 in
/-- zzFramingOut. -/
theorem framingOut_any (g1 g2 : Nat) (v u : Nat → Value) (w : World) (h1 : One 90 v) (hb1 : Blk w g1 90 v) (hb2 : Blk w g2 90 u) (hne : g1 ≠ g2) :
    Calls Trym.prog 26 #[.pointer (some ⟨g1, 0, none⟩), .pointer (some ⟨g2, 0, none⟩)] w fun e w' => e = .returned (.tuple #[]) ∧ Blk w' g2 90 v ∧ But g2 w w' := by
  have HA := hide hb1
  have HB : Hid (Copied w g2 v 0) := ⟨u, hb2, fun j hj => by omega⟩
  have HO := hide h1
  have HT := hide (But.refl g2 w)
  have HNE := hide hne
  clear h1 hb1 hb2 hne
  go_enter Trym.func26, Trym.ntmps26
  go_wp2_with (first
    | (refine wpList_load1 rfl 3 _ rfl Trym.single3 g1 _ 90 rfl v (unhide HA) (by omega) ?_)
    | (refine wpList_load1 rfl 4 _ rfl Trym.single4 g1 _ 90 rfl v (unhide HA) (by omega) ?_)
    | (refine wpList_load1 rfl 31 _ rfl Trym.single31 g1 _ 90 rfl v (unhide HA) (by omega) ?_)
    | (refine wpList_load1 rfl 32 _ rfl Trym.single32 g1 _ 90 rfl v (unhide HA) (by omega) ?_)
    | (refine wpList_load1 rfl 51 _ rfl Trym.single51 g1 _ 90 rfl v (unhide HA) (by omega) ?_)
    | (refine wpList_load_agg rfl 22 _ rfl Trym.agg22 g1 4 rfl (sh 4 v) ((unhide HA).sh 4 64 (by omega)) ?_)
    | (refine wpList_load_agg rfl 23 _ rfl Trym.agg23 g1 68 rfl (sh 68 v) ((unhide HA).sh 68 9 (by omega)) ?_)
    | (refine wpList_copy1 rfl 3 _ _ rfl Trym.size1_3 g2 _ v rfl rfl (unhide HO) (unhide HB) (by omega) ?_; intro wn hcn hbn; replace HA := hide (hbn.blk (unhide HNE) (unhide HA)); replace HB := hide hcn; replace HT := hide ((unhide HT).trans hbn); clear hcn hbn)
    | (refine wpList_copy1 rfl 4 _ _ rfl Trym.size1_4 g2 _ v rfl rfl (unhide HO) (unhide HB) (by omega) ?_; intro wn hcn hbn; replace HA := hide (hbn.blk (unhide HNE) (unhide HA)); replace HB := hide hcn; replace HT := hide ((unhide HT).trans hbn); clear hcn hbn)
    | (refine wpList_copy1 rfl 31 _ _ rfl Trym.size1_31 g2 _ v rfl rfl (unhide HO) (unhide HB) (by omega) ?_; intro wn hcn hbn; replace HA := hide (hbn.blk (unhide HNE) (unhide HA)); replace HB := hide hcn; replace HT := hide ((unhide HT).trans hbn); clear hcn hbn)
    | (refine wpList_copy1 rfl 32 _ _ rfl Trym.size1_32 g2 _ v rfl rfl (unhide HO) (unhide HB) (by omega) ?_; intro wn hcn hbn; replace HA := hide (hbn.blk (unhide HNE) (unhide HA)); replace HB := hide hcn; replace HT := hide ((unhide HT).trans hbn); clear hcn hbn)
    | (refine wpList_copyA rfl 22 _ _ rfl 64 Trym.agg22 g2 _ v rfl rfl (unhide HO) (unhide HB) (by omega) ?_; intro wn hcn hbn; replace HA := hide (hbn.blk (unhide HNE) (unhide HA)); replace HB := hide hcn; replace HT := hide ((unhide HT).trans hbn); clear hcn hbn)
    | (refine wpList_copyA rfl 23 _ _ rfl 9 Trym.agg23 g2 _ v rfl rfl (unhide HO) (unhide HB) (by omega) ?_; intro wn hcn hbn; replace HA := hide (hbn.blk (unhide HNE) (unhide HA)); replace HB := hide hcn; replace HT := hide ((unhide HT).trans hbn); clear hcn hbn))
  go_end0
  exact ⟨rfl, (unhide HB).full, unhide HT⟩
end Go.Proofs.Qxb6602878aMods
