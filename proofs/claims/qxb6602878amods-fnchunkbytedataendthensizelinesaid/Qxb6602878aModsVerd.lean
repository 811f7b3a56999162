/- Seat b6602878aM: the law FnChunkByteDataEndThenSizeLine: what its main walk wants. -/
import Derived.Test.Qxb6602878aModsDLaw2
namespace Go.Proofs.Qxb6602878aMods
open Go.RowKit

theorem setV_setV (v : Nat → Value) (k : Nat) (x y : Value) : setV (setV v k x) k y = setV v k y := funext fun j => by
  unfold setV
  by_cases e : j = k
  · rw [if_pos e, if_pos e]
  · rw [if_neg e, if_neg e, if_neg e]
theorem put_setV (v : Nat → Value) (k : Nat) (x : Value) (j : Nat) : put k 1 (fun _ => x) v j = setV v k x j := by
  unfold put setV
  by_cases e : j = k
  · rw [if_pos (by omega), if_pos e]
  · rw [if_neg (by omega), if_neg e]

/-- Ahead of the mirror's variable. -/
structure Prep (w w4 : World) (v : Nat → Value) (g1 : Nat) (h1 h2 : Option Addr) (hl : Nat) (e : Nat → Int) (a' : Option Addr) (l : Nat) (p : Nat → Int) : Prop where
  below : Below w.heap.size w w4
  bf : Blk w4 g1 90 (setV v 87 (.slice h1 hl hl))
  hi1 : HasI w4 h1 hl hl e
  hi2 : HasI w4 h2 hl hl e
  hn : h2.isNone = h1.isNone
  src : SrcB w.heap.size w4 a' l p
theorem Prep.next {w w4 w5 : World} {v : Nat → Value} {g1 : Nat} {h1 h2 : Option Addr} {hl : Nat} {e : Nat → Int} {a' : Option Addr} {l : Nat} {p : Nat → Int} (h : Prep w w4 v g1 h1 h2 hl e a' l p) (hb : Below w4.heap.size w4 w5) : Prep w w5 v g1 h1 h2 hl e a' l p :=
  ⟨h.below.trans (hb.mono h.below.size), below_blk hb h.bf.lt h.bf, h.hi1.next hb, h.hi2.next hb, h.hn, by
    rcases h.src with h | ⟨g, h1, h2, h3⟩
    · exact .inl h
    · exact .inr ⟨g, h1, h2, below_blk hb h3.lt h3⟩⟩

theorem HasI.but {w w' : World} {a : Option Addr} {l c g : Nat} {e : Nat → Int} (h : HasI w a l c e) (hb : But g w w') (hne : ∀ x, a = some x → x.block ≠ g) : HasI w' a l c e := by
  rcases h with h | ⟨x, h1, h2⟩
  · exact .inl h
  · refine .inr ⟨x, h1, fun i hi => ?_⟩
    have hxb : (x.add i).block = x.block := by
      unfold Addr.add
      split <;> rfl
    exact (World.cell?_of_block (hb.block _ (by rw [hxb]; exact hne x h1))).trans (h2 i hi)
theorem far_ne {a : Option Addr} {n g : Nat} (hg : g < n) (h : a = none ∨ ∃ k, a = some ⟨k, 0, none⟩ ∧ n ≤ k) : ∀ x, a = some x → x.block ≠ g := fun x hx => by
  rcases h with h | ⟨k, h, hk⟩
  · rw [h] at hx; cases hx
  · rw [h] at hx
    injection hx with hx
    subst hx
    show k ≠ g
    omega
theorem prep_mk {w w3b w3c w4 : World} {v : Nat → Value} {g1 : Nat} {h1 h2 : Option Addr} {hl : Nat} {e : Nat → Int} {a' : Option Addr} {l : Nat} {p : Nat → Int} (b1 : Below w.heap.size w w3b) (b2 : Below w3b.heap.size w3b w3c) (b3 : Below w3c.heap.size w3c w4)
    (k : Blk w3b g1 90 (setV v 87 (.slice h1 hl hl))) (i1 : HasI w3b h1 hl hl e) (i2 : HasI w4 h2 hl hl e) (hn : h2.isNone = h1.isNone) (src : SrcB w3b.heap.size w3c a' l p) : Prep w w4 v g1 h1 h2 hl e a' l p := by
  have m1 := b1.trans (b2.mono b1.size)
  refine ⟨m1.trans (b3.mono m1.size), below_blk b3 (below_blk b2 k.lt k).lt (below_blk b2 k.lt k), (i1.next b2).next b3, i2, hn, ?_⟩
  rcases src with h | ⟨g, q1, q2, q3⟩
  · exact .inl h
  · exact .inr ⟨g, q1, Nat.le_trans b1.size q2, below_blk b3 q3.lt q3⟩

theorem slice_two (gs l L : Nat) (hl : l = L + 2) : ∃ off : Nat, (L = 0 ∨ off = 2) ∧ (∀ wx, (Instr.sliceAt 24 (.slice (some ⟨gs, 0, none⟩) l l) (some (.int .i64 2)) none none).run Trym.prog wx = .ok (.slice (some ⟨gs, off, none⟩) L L) wx) ∧
    (∀ wx, (Instr.slice 24 (.slice (some ⟨gs, 0, none⟩) l l) (some (.int .i64 2)) none none).run Trym.prog wx = .ok (.slice (some ⟨gs, off, none⟩) L L) wx) := by
  subst hl
  by_cases h : L = 0
  · subst h
    have k : ∀ wx, (Instr.slice 24 (.slice (some ⟨gs, 0, none⟩) (0 + 2) (0 + 2)) (some (.int .i64 2)) none none).run Trym.prog wx = .ok (.slice (some ⟨gs, 0, none⟩) 0 0) wx := fun wx => by
      obtain ⟨i, hi, hsz⟩ := Option.map_eq_some_iff.1 Trym.size5
      simp [Instr.slice, run_underlying Trym.underlying24, Instr.sliceBounds, Instr.sliceBound, asIntOf, sizeOf, typeInfo, hi]
    refine ⟨0, .inl rfl, fun wx => ?_, k⟩
    simp only [Instr.sliceAt, Sem.run_bind, run_underlying Trym.underlying24, Result.andThen_ok]
    exact k wx
  · refine ⟨2, .inr rfl, fun wx => ?_, fun wx => ?_⟩
    · exact sliceAt_slice_from 24 5 Trym.underlying24 Trym.size5 gs 0 2 (L + 2) 2 rfl (by omega) wx
    · exact slice_from 24 5 Trym.underlying24 Trym.size5 gs 0 2 (L + 2) 2 rfl (by omega) wx
theorem two_cells {w : World} {gs l L off : Nat} {p : Nat → Int} (h : Blk w gs l (by8 p)) (hl : l = L + 2) (ho : L = 0 ∨ off = 2) : ∀ i, i < L → w.cell? ⟨gs, off + i, none⟩ = some (.int .u8 ((fun i => p (i + 2)) i)) := fun i hi => by
  obtain rfl : off = 2 := by rcases ho with h | h <;> omega
  rw [h.cell (2 + i) (by omega), Nat.add_comm 2 i]
  rfl

/-- The rest's cells are the mirror's, the heads apart. -/
theorem rest_cells (v : Nat → Value) (x y : Value) (am : Bool) (st lf dg : Int) (j : Nat) :
    put 89 1 (fun _ => .int .i64 dg) (put 88 1 (fun _ => .int .u64 lf) (put 0 1 (fun _ => .bool am) (put 2 1 (fun _ => .int .i64 st) (setV v 87 x)))) j = setV (frS (setV v 87 y) ⟨am, st, lf, dg⟩) 87 x j := by
  unfold put setV frS fr
  dsimp only
  by_cases h0 : j = 0
  · subst h0; rfl
  · by_cases h2 : j = 2
    · subst h2; rfl
    · by_cases h7 : j = 87
      · subst h7; rfl
      · by_cases h8 : j = 88
        · subst h8; rfl
        · by_cases h9 : j = 89
          · subst h9; rfl
          · rw [if_neg (by omega), if_neg (by omega), if_neg (by omega), if_neg (by omega), if_neg h7, if_neg h7, if_neg h0, if_neg h2, if_neg h8, if_neg h9, if_neg h7]

/-- What the size line's answer says of the mirror's state. -/
inductive LineOut (n : Nat) (am : Bool) (st lf dg V k val h : Int) : Prop
  | going (m : Nat) (h1 : n = m + 2) (h2 : k = m) (h3 : V = 0) (h4 : am = false) (h5 : val = lf) (h6 : h = dg) (h7 : st = 3 ∨ st = 4 ∨ st = 5 ∨ st = 6)
  | bad (m : Nat) (h1 : n = m + 2) (h2 : k = m) (h3 : V = 2) (h4 : am = true)
  | zero (m : Nat) (h1 : n = m + 2) (h2 : k = m) (h3 : V = 1) (h4 : am = false) (h5 : val = lf) (h6 : h = dg) (h7 : lf = 0) (h8 : st = 10)
  | more (m : Nat) (h1 : n = m + 2) (h2 : k = m) (h3 : V = 1) (h4 : am = false) (h5 : val = lf) (h6 : h = dg) (h7 : lf ≠ 0) (h8 : st = 7)
/-- Where the law's loop stands at its end. -/
inductive Vd (left dig : Int) (p : Nat → Int) (l n : Nat) (am : Bool) (st lf dg : Int) : Prop
  | empty (h1 : l = 0) (h2 : n = 0) (h3 : am = false) (h4 : st = 8) (h5 : lf = left) (h6 : dg = dig)
  | noCr (h1 : 0 < l) (h2 : p 0 ≠ 13) (h3 : n = 1) (h4 : am = true)
  | cr (h1 : l = 1) (h2 : p 0 = 13) (h3 : n = 1) (h4 : am = false) (h5 : st = 9) (h6 : lf = left) (h7 : dg = dig)
  | noLf (h1 : 1 < l) (h2 : p 0 = 13) (h3 : p 1 ≠ 10) (h4 : n = 2) (h5 : am = true)
  | line (L : Nat) (h1 : l = L + 2) (h2 : p 0 = 13) (h3 : p 1 = 10) (h4 : ∀ V k val h, Rel (fun i => p (i + 2)) L V k val h → LineOut n am st lf dg V k val h)
theorem vd_mk {left dig : Int} {p : Nat → Int} {l n : Nat} {am : Bool} {st lf dg : Int} (he : Ended (s8 left dig) p l n) (hs : rd (s8 left dig) p n = ⟨am, st, lf, dg⟩) : Vd left dig p l n am st lf dg := by
  by_cases h0 : l = 0
  · subst h0
    obtain rfl := he.uniq (ended_0 left dig p)
    have e := hs.symm.trans (show rd (s8 left dig) p 0 = s8 left dig from rfl)
    unfold s8 at e
    injection e with e1 e2 e3 e4
    exact .empty rfl rfl e1 e2 e3 e4
  · by_cases h13 : p 0 = 13
    · by_cases h1 : l = 1
      · obtain rfl := he.uniq (ended_1 left dig p l (by omega) (.inr h1))
        have e := hs.symm.trans (rd_1 left dig p)
        injection e with e1 e2 e3 e4
        exact .cr h1 h13 rfl (by rw [e1, h13]; rfl) e2 e3 e4
      · by_cases h10 : p 1 = 10
        · obtain ⟨L, rfl⟩ : ∃ L, l = L + 2 := ⟨l - 2, by omega⟩
          refine .line L rfl h13 h10 (fun V k val h hr => ?_)
          have key : ∀ m : Nat, m ≤ L → (∀ i, i < m → ¬ Stop (run (fun i => p (i + 2)) i)) → (m = L ∨ Stop (run (fun i => p (i + 2)) m)) → n = m + 2 ∧ run (fun i => p (i + 2)) m = ⟨am, st, lf, dg⟩ := fun m hm hb ha => by
            have hn := he.uniq (ended_run left dig p (L + 2) m (by omega) h13 h10 hb (by rcases ha with h | h; exact .inl (by omega); exact .inr h))
            refine ⟨hn, ?_⟩
            rw [← rd_run left dig p h10 m, ← hn]; exact hs
          rcases hr with ⟨hV, hk, hg, st', hst, hr'⟩ | ⟨hV, m, hk, hm, hg, ha⟩ | ⟨hV, m, hk, hm, hg, ha⟩
          · obtain ⟨q1, q2⟩ := key L (Nat.le_refl _) (fun i hi => hg i (by omega)) (.inl rfl)
            have e := q2.symm.trans hr'
            injection e with e1 e2 e3 e4
            exact .going L q1 hk hV e1 e3.symm e4.symm (by rw [e2]; exact hst)
          · obtain ⟨q1, q2⟩ := key (m + 1) (by omega) (fun i hi => hg i (by omega)) (.inr (.inl ha))
            rw [q2] at ha
            exact .bad (m + 1) q1 hk hV ha
          · by_cases e0 : val = 0
            · rw [if_pos e0] at ha
              obtain ⟨q1, q2⟩ := key (m + 1) (by omega) (fun i hi => hg i (by omega)) (.inr (.inr (by rw [ha]; exact .inr rfl)))
              have e := q2.symm.trans ha
              injection e with e1 e2 e3 e4
              exact .zero (m + 1) q1 hk hV e1 e3.symm e4.symm (e3.trans e0) e2
            · rw [if_neg e0] at ha
              obtain ⟨q1, q2⟩ := key (m + 1) (by omega) (fun i hi => hg i (by omega)) (.inr (.inr (by rw [ha]; exact .inl rfl)))
              have e := q2.symm.trans ha
              injection e with e1 e2 e3 e4
              exact .more (m + 1) q1 hk hV e1 e3.symm e4.symm (fun x => e0 (e3.symm.trans x)) e2
        · obtain rfl := he.uniq (ended_2 left dig p l (by omega) h13 h10)
          have e := hs.symm.trans (rd_2 left dig p)
          injection e with e1 e2 e3 e4
          exact .noLf (by omega) h13 h10 rfl (by rw [e1]; simp [h10])
    · obtain rfl := he.uniq (ended_1 left dig p l (by omega) (.inl h13))
      have e := hs.symm.trans (rd_1 left dig p)
      injection e with e1 e2 e3 e4
      exact .noCr (by omega) h13 rfl (by rw [e1]; simp [h13])
theorem z_cells {w : World} {g : Nat} {v : Nat → Value} {am : Bool} {st lf dg : Int} (h : Blk w g 90 (frS v ⟨am, st, lf, dg⟩)) : w.cell? ⟨g, 0, none⟩ = some (.bool am) ∧ w.cell? ⟨g, 2, none⟩ = some (.int .i64 st) ∧ w.cell? ⟨g, 88, none⟩ = some (.int .u64 lf) ∧ w.cell? ⟨g, 89, none⟩ = some (.int .i64 dg) :=
  ⟨h.cell 0 (by omega), h.cell 2 (by omega), h.cell 88 (by omega), h.cell 89 (by omega)⟩
theorem f_cells {w : World} {g : Nat} {v : Nat → Value} {am : Bool} {st left dig : Int} {ha : Option Addr} {hl hc : Nat} (h4 : Four v am st left dig ha hl hc) {x : Value} (h : Blk w g 90 (setV v 87 x)) : w.cell? ⟨g, 88, none⟩ = some (.int .u64 left) ∧ w.cell? ⟨g, 89, none⟩ = some (.int .i64 dig) :=
  ⟨(h.cell 88 (by omega)).trans (congrArg some h4.c88), (h.cell 89 (by omega)).trans (congrArg some h4.c89)⟩
/-- Behind the new variable and stores into it. -/
theorem after_new {w w1 w2 : World} {g n : Nat} {v : Nat → Value} (h : NewB w w1 g n v) (k : But g w1 w2) : Below w.heap.size w w2 := k.below' h.below (Nat.le_of_eq h.at_.symm)
theorem drewN_below {w w' : World} (h : ∃ q, w' = w.drewN q) : Below w.heap.size w w' := by
  obtain ⟨q, rfl⟩ := h
  exact drew_below w q
end Go.Proofs.Qxb6602878aMods
