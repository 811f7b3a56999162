/- Seat b6602878aM: the law FnChunkByteDataEndThenSizeLine: its walk. -/
import Derived.Test.Qxb6602878aModsDLaw
import Derived.Test.Qxb6602878aModsEnd
namespace Go.Proofs.Qxb6602878aMods
open Go.RowKit

/-- A slice of bytes that came in. -/
def HasB (w : World) (a : Option Addr) (l c : Nat) (p : Nat → Int) : Prop := (a = none ∧ l = 0 ∧ c = 0) ∨ ∃ x, a = some x ∧ ∀ i, i < l → w.cell? (x.add i) = some (.int .u8 (p i))
theorem HasB.next {w w' : World} {a : Option Addr} {l c : Nat} {p : Nat → Int} (h : HasB w a l c p) (hb : Below w.heap.size w w') : HasB w' a l c p := by
  rcases h with h | ⟨x, h1, h2⟩
  · exact .inl h
  · exact .inr ⟨x, h1, fun i hi => cell_later hb (h2 i hi)⟩
/-- The copy of it. -/
def SrcB (B : Nat) (w : World) (a : Option Addr) (l : Nat) (p : Nat → Int) : Prop := l = 0 ∨ ∃ g, a = some ⟨g, 0, none⟩ ∧ B ≤ g ∧ Blk w g l (by8 p)
theorem cloneB_any (a : Option Addr) (l c : Nat) (p : Nat → Int) (w : World) (hl : l ≤ 1048576) (hh : HasB w a l c p) :
    Calls Trym.prog 9 #[.slice a l c] w fun r w' => ∃ a', r = .returned (.slice a' l l) ∧ SrcB w.heap.size w' a' l p ∧ Below w.heap.size w w' := by
  rcases hh with ⟨rfl, rfl, rfl⟩ | ⟨x, rfl, hc⟩
  · refine (clone_nil w).mono fun r w' h => ?_
    obtain ⟨rfl, rfl⟩ := h
    exact ⟨_, rfl, .inl rfl, Below.refl _ _⟩
  · refine (clone_some x l c p w hl hc).mono fun r w' h => ?_
    obtain ⟨g, rfl, hn⟩ := h
    exact ⟨_, rfl, .inr ⟨g, rfl, Nat.le_of_eq hn.at_.symm, hn.blk⟩, hn.below⟩

/-- What the law answers. -/
def DSaid (w : World) (r : Ending) (w' : World) : Prop := r = .returned (.bool true) ∧ Below w.heap.size w w'

/-- The four cells. -/
structure Four (v : Nat → Value) (amb : Bool) (st left dig : Int) (ha : Option Addr) (hl hc : Nat) : Prop where
  c0 : v 0 = .bool amb
  c2 : v 2 = .int .i64 st
  c88 : v 88 = .int .u64 left
  c89 : v 89 = .int .i64 dig
  c87 : v 87 = .slice ha hl hc
theorem Four.fr {v : Nat → Value} {amb : Bool} {st left dig : Int} {ha : Option Addr} {hl hc : Nat} (h : Four v amb st left dig ha hl hc) (a : Option Addr) (l c j : Nat) : setV v 87 (.slice a l c) j = fr (setV v 87 (.slice a l c)) amb st left dig j := by
  unfold Qxb6602878aMods.fr setV
  by_cases h0 : j = 0
  · subst h0; exact h.c0
  · by_cases h2 : j = 2
    · subst h2; exact h.c2
    · by_cases h8 : j = 88
      · subst h8; exact h.c88
      · by_cases h9 : j = 89
        · subst h9; exact h.c89
        · rw [if_neg h0, if_neg h2, if_neg h8, if_neg h9]

set_option maxHeartbeats 4000000 in
set_option maxRecDepth 8000 in
/-- The early returns. -/
theorem dlaw_early (v : Nat → Value) (amb : Bool) (st left dig : Int) (ha : Option Addr) (hl hc : Nat) (a : Option Addr) (l c : Nat) (w : World) (h4 : Four v amb st left dig ha hl hc) (h1 : hl ≤ maxLen) (h2 : l ≤ maxLen)
    (he : 65536 < hl ∨ (hl ≤ 65536 ∧ 524288 < l) ∨ (hl ≤ 65536 ∧ l ≤ 524288 ∧ st ≠ 8) ∨ (hl ≤ 65536 ∧ l ≤ 524288 ∧ st = 8 ∧ amb = true)) :
    Calls Trym.prog 7 #[.agg (arr 90 v), .slice a l c] w (DSaid w) := by
  have H21 := fun wx => bytes21_any v ha hl hc a l c wx h4.c87 h1 h2
  have HF := hide h4
  have HH := hide H21
  clear H21 h4
  unfold maxLen at h1 h2
  rcases he with he | ⟨he1, he⟩ | ⟨he1, he2, he⟩ | ⟨he1, he2, rfl, rfl⟩
  · have hi : (65536 : Int) < (hl : Int) := by omega
    go_enter Trym.func7, Trym.ntmps7
    go_wp2_with (first
      | (refine wpList_box rfl 34 _ rfl 90 v rfl ?_; intro w1 g1 hn; have H1 := hide hn; clear hn)
      | (refine wpList_load_agg rfl 34 _ rfl Trym.agg34 g1 0 rfl v (unhide H1).blk.cells0 ?_)
      | (go_at_call 21
         refine ((unhide HH) w1).mono ?_
         rintro e w2 ⟨y, rfl, _, hb2⟩
         have c87 : w2.cell? ⟨g1, 87, none⟩ = some (.slice ha hl hc) := ((below_blk hb2 (unhide H1).blk.lt (unhide H1).blk).cell 87 (by omega)).trans (congrArg some (unhide HF).c87)
         have HB2 := hide ((unhide H1).below.trans (hb2.mono (unhide H1).below.size))
         clear hb2
         cases y))
    all_goals (go_ret; exact ⟨rfl, unhide HB2⟩)
  · have hi : (524288 : Int) < (l : Int) := by omega
    go_enter Trym.func7, Trym.ntmps7
    go_wp2_with (first
      | (refine wpList_box rfl 34 _ rfl 90 v rfl ?_; intro w1 g1 hn; have H1 := hide hn; clear hn)
      | (refine wpList_load_agg rfl 34 _ rfl Trym.agg34 g1 0 rfl v (unhide H1).blk.cells0 ?_)
      | (go_at_call 21
         refine ((unhide HH) w1).mono ?_
         rintro e w2 ⟨y, rfl, _, hb2⟩
         have c87 : w2.cell? ⟨g1, 87, none⟩ = some (.slice ha hl hc) := ((below_blk hb2 (unhide H1).blk.lt (unhide H1).blk).cell 87 (by omega)).trans (congrArg some (unhide HF).c87)
         have HB2 := hide ((unhide H1).below.trans (hb2.mono (unhide H1).below.size))
         clear hb2
         cases y))
    all_goals (go_ret; exact ⟨rfl, unhide HB2⟩)
  · have d8 : decide (st = 8) = false := decide_eq_false he
    have e8 : (st == 8) = false := beq_eq_false_iff_ne.2 he
    have n8 : (st != 8) = true := by simp [he]
    go_enter Trym.func7, Trym.ntmps7
    go_wp2_with (first
      | (refine wpList_box rfl 34 _ rfl 90 v rfl ?_; intro w1 g1 hn; have H1 := hide hn; clear hn)
      | (refine wpList_load_agg rfl 34 _ rfl Trym.agg34 g1 0 rfl v (unhide H1).blk.cells0 ?_)
      | (go_at_call 21
         refine ((unhide HH) w1).mono ?_
         rintro e w2 ⟨y, rfl, _, hb2⟩
         have c87 : w2.cell? ⟨g1, 87, none⟩ = some (.slice ha hl hc) := ((below_blk hb2 (unhide H1).blk.lt (unhide H1).blk).cell 87 (by omega)).trans (congrArg some (unhide HF).c87)
         have c0 : w2.cell? ⟨g1, 0, none⟩ = some (.bool amb) := ((below_blk hb2 (unhide H1).blk.lt (unhide H1).blk).cell 0 (by omega)).trans (congrArg some (unhide HF).c0)
         have c2 : w2.cell? ⟨g1, 2, none⟩ = some (.int .i64 st) := ((below_blk hb2 (unhide H1).blk.lt (unhide H1).blk).cell 2 (by omega)).trans (congrArg some (unhide HF).c2)
         have HB2 := hide ((unhide H1).below.trans (hb2.mono (unhide H1).below.size))
         clear hb2
         cases y))
    all_goals (go_ret; exact ⟨rfl, unhide HB2⟩)
  · skip
    go_enter Trym.func7, Trym.ntmps7
    go_wp2_with (first
      | (refine wpList_box rfl 34 _ rfl 90 v rfl ?_; intro w1 g1 hn; have H1 := hide hn; clear hn)
      | (refine wpList_load_agg rfl 34 _ rfl Trym.agg34 g1 0 rfl v (unhide H1).blk.cells0 ?_)
      | (go_at_call 21
         refine ((unhide HH) w1).mono ?_
         rintro e w2 ⟨y, rfl, _, hb2⟩
         have c87 : w2.cell? ⟨g1, 87, none⟩ = some (.slice ha hl hc) := ((below_blk hb2 (unhide H1).blk.lt (unhide H1).blk).cell 87 (by omega)).trans (congrArg some (unhide HF).c87)
         have c0 : w2.cell? ⟨g1, 0, none⟩ = some (.bool true) := ((below_blk hb2 (unhide H1).blk.lt (unhide H1).blk).cell 0 (by omega)).trans (congrArg some (unhide HF).c0)
         have c2 : w2.cell? ⟨g1, 2, none⟩ = some (.int .i64 8) := ((below_blk hb2 (unhide H1).blk.lt (unhide H1).blk).cell 2 (by omega)).trans (congrArg some (unhide HF).c2)
         have HB2 := hide ((unhide H1).below.trans (hb2.mono (unhide H1).below.size))
         clear hb2
         cases y))
    all_goals (go_ret; exact ⟨rfl, unhide HB2⟩)
end Go.Proofs.Qxb6602878aMods
