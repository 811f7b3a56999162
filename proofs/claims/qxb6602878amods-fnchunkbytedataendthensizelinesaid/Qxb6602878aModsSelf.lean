/- Seat b6602878aM: values that equal themselves. -/
import Derived.Test.Qxb6602878aModsLex
import Derived.Laws.StructEq
namespace Go.Proofs.Qxb6602878aMods
open Go.RowKit

theorem run_equalIn_same (d : Nat) (t e : TypeId) (n : Nat) (F : Nat → Int) (w : World) (ht : Trym.prog.underlying t = some (.array n e)) (he : Trym.prog.underlying e = some (.int .u8)) (hsz : ∀ w, (sizeOf e).run Trym.prog w = .ok 1 w) :
    (Op.equalIn (d + 2) t (.agg (arr n (by8 F))) (.agg (arr n (by8 F)))).run Trym.prog w = .ok true w := by
  rw [Op.equalIn]
  simp only [Sem.run_bind, run_underlying ht, Result.andThen_ok, hsz, Std.Legacy.Range.forIn_eq_forIn_range', Std.Legacy.Range.size, Nat.sub_zero, Nat.add_sub_cancel, Nat.div_one]
  have hl : ∀ i ∈ List.range' 0 n 1, i < n := fun i hi => by simpa using (List.mem_range'_1.1 hi).2
  generalize List.range' 0 n 1 = l at hl ⊢
  induction l with
  | nil => simp
  | cons i l ih =>
    have hi : i < n := hl i (by simp)
    have px : (part e (arr n (by8 F)) (i * 1)).run Trym.prog w = .ok (by8 F i) w := by
      have := get_arr n (by8 F) i hi
      simp [part, isAgg, run_underlying he, this]
    have pe : (Op.equalIn (d + 1) e (by8 F i) (by8 F i)).run Trym.prog w = .ok true w := by
      unfold by8
      rw [run_equalIn_int w d e .u8 .u8 _ _ he]
      simp
    simp only [List.forIn_cons, Sem.run_bind, px, pe, Result.andThen_ok]
    simp only [Bool.not_true, Bool.false_eq_true, if_false, Sem.run_pure, Result.andThen_ok]
    exact ih fun j hj => hl j (by simp [hj])
theorem run_eql_same (t e : TypeId) (n : Nat) (F : Nat → Int) (w : World) (ht : Trym.prog.underlying t = some (.array n e)) (he : Trym.prog.underlying e = some (.int .u8)) (hsz : ∀ w, (sizeOf e).run Trym.prog w = .ok 1 w) :
    (binOp .eql t (.agg (arr n (by8 F))) (.agg (arr n (by8 F)))).run Trym.prog w = .ok (.bool true) w := by
  rw [run_eql_struct, run_equalIn_same 9998 t e n F w ht he hsz]
  rfl
end Go.Proofs.Qxb6602878aMods
