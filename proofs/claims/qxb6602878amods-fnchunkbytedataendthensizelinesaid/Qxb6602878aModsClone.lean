/- Seat b6602878aM: zzCloneBytesPB1 and zzBytes_FnLineEndsAddMatchesModel. -/
import Derived.Test.Qxb6602878aModsLaws2
namespace Go.Proofs.Qxb6602878aMods
open Go.RowKit

theorem Trym.info5 : (Trym.prog.info? 5).map (fun i => (i.zero, i.size, i.bytes)) = some (some (.int .u8 0), 1, 1) := by kernel_rfl

theorem made_new (k : IntKind) (w : World) (n : Nat) (e : TypeId) : NewB w (w.alloc (.cells (madeCells #[.int k 0] n) e)) w.heap.size n (fun _ => .int k 0) := by
  have h : madeCells #[Value.int k 0] n = arr n (fun _ => .int k 0) := arr_ext n _ _ (size_madeCells _ _) (fun i hi => by simp [madeCells, hi, Nat.mod_one])
  rw [h]
  exact newB_alloc w n _ e

/-- 'make([]T, n)', T an integer kind of one cell, n a variable. -/
theorem wpList_make_ints {P : Program} {w : World} {ops : Array Oper} {rest : List Oper} {o : Oper} {a : Act} {Q : Exit → Act → World → Prop}
    (hg : o.guard = none) (l c : Operand) (t : TypeId) (hop : o.op = Op.makeSlice t l c) (e : TypeId) (k : IntKind) (bytes : Nat) (h1 : P.underlying t = some (.slice e))
    (h2 : (P.info? e).map (fun i => (i.zero, i.size, i.bytes)) = some (some (.int k 0), 1, bytes)) (kl kc : IntKind) (n : Nat) (hl : a.eval l = .int kl (n : Int)) (hc : a.eval c = .int kc (n : Int)) (b1 : bytes * n ≤ 281474976710656) (b2 : n ≤ 9223372036854775807)
    (hK : ∀ w' g, NewB w w' g n (fun _ => .int k 0) → wpList P ops Q rest (a.put o.dst (.slice (some ⟨g, 0, none⟩) n n)) w') :
    wpList P ops Q (o :: rest) a w := by
  refine wpList_plain hg fun K hK' => ?_
  obtain ⟨i, hi, hz, hs, hby⟩ := info_parts h2
  have hb' : (i.bytes : Int) * (n : Int) ≤ 281474976710656 := by
    have h : ((i.bytes * n : Nat) : Int) ≤ 281474976710656 := by rw [hby]; omega
    rwa [Int.natCast_mul] at h
  have hr := run_make (P := P) w t e i (.int k 0) h1 hi hz kl kc n n (by omega) (Int.le_refl _) hb' (by omega)
  simp only [Int.toNat_natCast, hs, Nat.mul_one] at hr
  unfold Oper.wp
  simp [execOp, hop, hl, hc, hr, Result.andThen]
  exact hK' _ _ (hK _ _ (made_new k w n e))

set_option maxHeartbeats 400000 in
theorem clone_nil (w : World) : Calls Trym.prog 9 #[.slice none 0 0] w fun e w' => e = .returned (.slice none 0 0) ∧ w' = w := by
  have heql := fun (wx : World) (a : Option Addr) (l c : Nat) => Lib.run_eql_slice_nil (P := Trym.prog) wx 24 5 a l c 0 0 Trym.underlying24
  go_enter Trym.func9, Trym.ntmps9
  go_wp2
  go_ret
  exact ⟨rfl, rfl⟩

set_option maxHeartbeats 400000 in
theorem clone_some (x : Addr) (l c : Nat) (p : Nat → Int) (w : World) (hl : l ≤ 1048576) (hc : ∀ i, i < l → w.cell? (x.add i) = some (.int .u8 (p i))) :
    Calls Trym.prog 9 #[.slice (some x) l c] w fun e w' => ∃ g, e = .returned (.slice (some ⟨g, 0, none⟩) l l) ∧ NewB w w' g l (by8 p) := by
  have heql := fun (wx : World) (a : Option Addr) (l c : Nat) => Lib.run_eql_slice_nil (P := Trym.prog) wx 24 5 a l c 0 0 Trym.underlying24
  have HC := hide hc
  clear hc
  go_enter Trym.func9, Trym.ntmps9
  go_wp2_with (at_make; refine wpList_make_ints rfl _ _ 24 rfl 5 .u8 1 Trym.underlying24 Trym.info5 .i64 .i64 l rfl rfl (by omega) (by omega) ?_; intro w1 g hn; obtain ⟨w2, hr, hb2, hbut2⟩ := run_copy_blk (P := Trym.prog) w1 24 3 5 Trym.underlying24 Trym.size5 g l _ hn.blk (some ⟨g, 0, none⟩) (some x) 0 l l l c l (by8 p) (Nat.min_self l).symm (fun _ => ⟨rfl, x, rfl, fun j hj => cell_later hn.below ((unhide HC) j hj)⟩) (by omega) (ones_by8 _ _); have HB := hide (hb2.congr (v' := by8 p) (fun j hj => put_all l _ _ j hj)); have HBUT := hide hbut2; have HN := hide hn; clear hn hb2 hbut2)
  go_ret
  refine ⟨g, rfl, (unhide HN).at_, (unhide HN).below.trans ((unhide HBUT).below _ (by rw [(unhide HN).at_]; exact Nat.le_refl _)), (unhide HBUT).size.trans (unhide HN).size, unhide HB⟩

set_option maxHeartbeats 400000 in
theorem bytes8_any (n : Int) (F L : Nat → Int) (a : Option Addr) (l c : Nat) (w : World) (hl : l ≤ maxLen) :
    Calls Trym.prog 8 #[.int .i64 n, .agg (arr 64 (by8 F)), .agg (arr 9 (by8 L)), .slice a l c] w fun e w' => (∃ r, e = .returned (.bool r)) ∧ Below w.heap.size w w' := by
  unfold maxLen at hl
  go_enter Trym.func8, Trym.ntmps8
  go_wp2
  all_goals (go_ret; exact ⟨⟨_, rfl⟩, ((Below.refl _ _).alloc (Nat.le_refl _) _).alloc (by simp) _⟩)
end Go.Proofs.Qxb6602878aMods
