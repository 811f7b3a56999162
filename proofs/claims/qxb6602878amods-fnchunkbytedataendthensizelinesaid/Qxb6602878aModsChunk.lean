/- Seat b6602878aM: hexDigit and (*framing).chunkByte. -/
import Derived.Test.Qxb6602878aModsOut
import Derived.Laws.Bits64b
namespace Go.Proofs.Qxb6602878aMods
open Go.RowKit

/-- The value of a hex digit. -/
def hexv (b : Int) : Option Int := if 48 ≤ b ∧ b ≤ 57 then some (b - 48) else if 97 ≤ b ∧ b ≤ 102 then some (b - 97 + 10) else if 65 ≤ b ∧ b ≤ 70 then some (b - 65 + 10) else none
theorem hexv_bd {b d : Int} (h : hexv b = some d) : 0 ≤ d ∧ d < 16 := by
  unfold hexv at h
  split at h
  · injection h; omega
  · split at h
    · injection h; omega
    · split at h
      · injection h; omega
      · cases h

set_option maxHeartbeats 1000000 in
theorem hexDigit_any (b : Int) (w : World) (h0 : 0 ≤ b) (h1 : b < 256) :
    Calls Trym.prog 29 #[.int .u8 b] w fun r w' => r = .returned (.tuple #[.int .u64 ((hexv b).getD 0), .bool (hexv b).isSome]) ∧ w' = w := by
  go_enter Trym.func29, Trym.ntmps29
  go_wp2
  all_goals (go_ret2; refine ⟨?_, rfl⟩)
  all_goals
    unfold hexv
    first
    | (rw [if_pos (by omega)]; rfl)
    | (rw [if_neg (by omega), if_pos (by omega)]; rfl)
    | (rw [if_neg (by omega), if_neg (by omega), if_pos (by omega)]; rfl)
    | (rw [if_neg (by omega), if_neg (by omega), if_neg (by omega)]; rfl)

/-- The framing: four cells over a base. -/
def fr (v : Nat → Value) (amb : Bool) (st left dig : Int) (j : Nat) : Value := if j = 0 then .bool amb else if j = 2 then .int .i64 st else if j = 88 then .int .u64 left else if j = 89 then .int .i64 dig else v j
theorem one_int (k : IntKind) (x : Int) : (Value.int k x).oneCell' = true ∧ (Value.int k x).cells = arr 1 (fun _ => .int k x) := ⟨rfl, int_cells k x⟩
theorem one_bool (x : Bool) : (Value.bool x).oneCell' = true ∧ (Value.bool x).cells = arr 1 (fun _ => .bool x) := ⟨rfl, bool_cells x⟩
theorem one_fr {v : Nat → Value} (h : One 90 v) (amb : Bool) (st left dig : Int) : One 90 (fr v amb st left dig) := fun j hj => by
  unfold fr
  split
  · exact one_bool _
  · split
    · exact one_int _ _
    · split
      · exact one_int _ _
      · split
        · exact one_int _ _
        · exact h j hj

theorem Trym.size1_51 : (Trym.prog.info? 51).map (·.size) = some 1 := by kernel_rfl
section
variable {w : World} {ops : Array Oper} {rest : List Oper} {o : Oper} {a : Act} {Q : Exit → Act → World → Prop} {v : Nat → Value} {amb : Bool} {st left dig : Int} {g : Nat}
theorem wpList_st0 (hgd : o.guard = none) (x y : Operand) (ho : o.op = .store 4 x y) (hx : a.eval x = .pointer (some ⟨g, 0, none⟩)) (z : Bool) (hy : a.eval y = .bool z) (hb : Blk w g 90 (fr v amb st left dig))
    (hK : ∀ w', Blk w' g 90 (fr v z st left dig) → But g w w' → wpList Trym.prog ops Q rest (a.put o.dst undef) w') : wpList Trym.prog ops Q (o :: rest) a w :=
  wpList_store1 hgd 4 x y ho Trym.size1_4 g 0 90 _ hx _ hy (one_bool z) hb (by omega) (fun w' hb' hbut => hK w' (hb'.congr (fun j hj => by
    unfold put fr
    by_cases e : j = 0
    · subst e; rfl
    · rw [if_neg (by omega), if_neg e, if_neg e])) hbut)
theorem wpList_st2 (hgd : o.guard = none) (x y : Operand) (ho : o.op = .store 51 x y) (hx : a.eval x = .pointer (some ⟨g, 2, none⟩)) (z : Int) (hy : a.eval y = .int .i64 z) (hb : Blk w g 90 (fr v amb st left dig))
    (hK : ∀ w', Blk w' g 90 (fr v amb z left dig) → But g w w' → wpList Trym.prog ops Q rest (a.put o.dst undef) w') : wpList Trym.prog ops Q (o :: rest) a w :=
  wpList_store1 hgd 51 x y ho Trym.size1_51 g 2 90 _ hx _ hy (one_int _ z) hb (by omega) (fun w' hb' hbut => hK w' (hb'.congr (fun j hj => by
    unfold put fr
    by_cases e : j = 2
    · subst e; rfl
    · rw [if_neg (by omega)]; simp only [e, if_false])) hbut)
theorem wpList_st88 (hgd : o.guard = none) (x y : Operand) (ho : o.op = .store 31 x y) (hx : a.eval x = .pointer (some ⟨g, 88, none⟩)) (z : Int) (hy : a.eval y = .int .u64 z) (hb : Blk w g 90 (fr v amb st left dig))
    (hK : ∀ w', Blk w' g 90 (fr v amb st z dig) → But g w w' → wpList Trym.prog ops Q rest (a.put o.dst undef) w') : wpList Trym.prog ops Q (o :: rest) a w :=
  wpList_store1 hgd 31 x y ho Trym.size1_31 g 88 90 _ hx _ hy (one_int _ z) hb (by omega) (fun w' hb' hbut => hK w' (hb'.congr (fun j hj => by
    unfold put fr
    by_cases e : j = 88
    · subst e; rfl
    · rw [if_neg (by omega)]; simp only [e, if_false])) hbut)
theorem wpList_st89 (hgd : o.guard = none) (x y : Operand) (ho : o.op = .store 3 x y) (hx : a.eval x = .pointer (some ⟨g, 89, none⟩)) (z : Int) (hy : a.eval y = .int .i64 z) (hb : Blk w g 90 (fr v amb st left dig))
    (hK : ∀ w', Blk w' g 90 (fr v amb st left z) → But g w w' → wpList Trym.prog ops Q rest (a.put o.dst undef) w') : wpList Trym.prog ops Q (o :: rest) a w :=
  wpList_store1 hgd 3 x y ho Trym.size1_3 g 89 90 _ hx _ hy (one_int _ z) hb (by omega) (fun w' hb' hbut => hK w' (hb'.congr (fun j hj => by
    unfold put fr
    by_cases e : j = 89
    · subst e; rfl
    · rw [if_neg (by omega)]; simp only [e, if_false])) hbut)
end

/-- The framing's four cells. -/
structure Fs where
  amb : Bool
  st : Int
  left : Int
  dig : Int
def stepSize (s : Fs) (b : Int) : Fs := match hexv b with
  | some d => if s.dig < 16 then { s with left := s.left * 16 + d, dig := s.dig + 1 } else { s with amb := true }
  | none => if s.dig = 0 then { s with amb := true } else if b = 59 then { s with st := 5 } else if b = 32 ∨ b = 9 then { s with st := 4 } else if b = 13 then { s with st := 6 } else { s with amb := true }
def step (s : Fs) (b : Int) : Fs :=
  if s.st = 3 then stepSize s b
  else if s.st = 4 then (if b = 32 ∨ b = 9 then s else if b = 13 then { s with st := 6 } else { s with amb := true })
  else if s.st = 5 then (if b = 13 then { s with st := 6 } else if b = 10 then { s with amb := true } else s)
  else if s.st = 6 then (if b = 10 then (if s.left = 0 then { s with st := 10 } else { s with st := 7 }) else { s with amb := true })
  else if s.st = 8 then { s with st := 9, amb := !decide (b = 13) }
  else if s.st = 9 then { amb := !decide (b = 10), st := 3, left := 0, dig := 0 }
  else s
def frS (v : Nat → Value) (s : Fs) : Nat → Value := fr v s.amb s.st s.left s.dig
def Chunked (g : Nat) (v : Nat → Value) (s : Fs) (w : World) (r : Ending) (w' : World) : Prop := r = .returned (.tuple #[]) ∧ Blk w' g 90 (frS v s) ∧ But g w w'

set_option linter.unusedSimpArgs false
theorem or_u64 (x d : Int) (h0 : 0 ≤ x) (h1 : x < 1152921504606846976) (h2 : 0 ≤ d) (h3 : d < 16) : bits BinOp.or IntKind.u64 (x * 16) d = x * 16 + d := by
  obtain ⟨n, rfl⟩ := Int.eq_ofNat_of_zero_le h0
  obtain ⟨m, rfl⟩ := Int.eq_ofNat_of_zero_le h2
  have hm : m < 2 ^ 4 := by omega
  have := bits_or_u64_nat (n * 16) m (by omega) (by omega)
  rw [Int.natCast_mul] at this
  rw [show ((16 : Nat) : Int) = 16 from rfl] at this
  rw [this]
  have e := Nat.shiftLeft_add_eq_or_of_lt hm n
  rw [Nat.shiftLeft_eq] at e
  rw [show n * 2 ^ 4 = n * 16 from rfl] at e
  rw [← e]
  omega

set_option maxHeartbeats 4000000 in
set_option maxRecDepth 8000 in
theorem chunk_8 (g : Nat) (v : Nat → Value) (amb : Bool) (left dig b : Int) (w : World) (hb : Blk w g 90 (fr v amb 8 left dig)) :
    Calls Trym.prog 25 #[.pointer (some ⟨g, 0, none⟩), .int .u8 b] w (Chunked g v (step ⟨amb, 8, left, dig⟩ b) w) := by
  have c2 : w.cell? ⟨g, 2, none⟩ = some (.int .i64 8) := hb.cell 2 (by omega)
  have c88 : w.cell? ⟨g, 88, none⟩ = some (.int .u64 left) := hb.cell 88 (by omega)
  have c89 : w.cell? ⟨g, 89, none⟩ = some (.int .i64 dig) := hb.cell 89 (by omega)
  have HB := hide hb
  have HT := hide (But.refl g w)
  clear hb
  go_enter Trym.func25, Trym.ntmps25
  go_wp2_with (first
    | (refine wpList_st0 rfl _ _ rfl rfl _ rfl (unhide HB) ?_; intro wn hbn hbutn; replace HB := hide hbn; replace HT := hide ((unhide HT).trans hbutn); clear hbn hbutn)
    | (refine wpList_st2 rfl _ _ rfl rfl _ rfl (unhide HB) ?_; intro wn hbn hbutn; replace HB := hide hbn; replace HT := hide ((unhide HT).trans hbutn); clear hbn hbutn)
    | (refine wpList_st88 rfl _ _ rfl rfl _ rfl (unhide HB) ?_; intro wn hbn hbutn; replace HB := hide hbn; replace HT := hide ((unhide HT).trans hbutn); clear hbn hbutn)
    | (refine wpList_st89 rfl _ _ rfl rfl _ rfl (unhide HB) ?_; intro wn hbn hbutn; replace HB := hide hbn; replace HT := hide ((unhide HT).trans hbutn); clear hbn hbutn))
  go_end0
  refine ⟨rfl, ?_, unhide HT⟩
  have hs := unhide HB
  unfold frS step
  exact hs

set_option maxHeartbeats 4000000 in
set_option maxRecDepth 8000 in
theorem chunk_9 (g : Nat) (v : Nat → Value) (amb : Bool) (left dig b : Int) (w : World) (hb : Blk w g 90 (fr v amb 9 left dig)) :
    Calls Trym.prog 25 #[.pointer (some ⟨g, 0, none⟩), .int .u8 b] w (Chunked g v (step ⟨amb, 9, left, dig⟩ b) w) := by
  have c2 : w.cell? ⟨g, 2, none⟩ = some (.int .i64 9) := hb.cell 2 (by omega)
  have c88 : w.cell? ⟨g, 88, none⟩ = some (.int .u64 left) := hb.cell 88 (by omega)
  have c89 : w.cell? ⟨g, 89, none⟩ = some (.int .i64 dig) := hb.cell 89 (by omega)
  have HB := hide hb
  have HT := hide (But.refl g w)
  clear hb
  go_enter Trym.func25, Trym.ntmps25
  go_wp2_with (first
    | (refine wpList_st0 rfl _ _ rfl rfl _ rfl (unhide HB) ?_; intro wn hbn hbutn; replace HB := hide hbn; replace HT := hide ((unhide HT).trans hbutn); clear hbn hbutn)
    | (refine wpList_st2 rfl _ _ rfl rfl _ rfl (unhide HB) ?_; intro wn hbn hbutn; replace HB := hide hbn; replace HT := hide ((unhide HT).trans hbutn); clear hbn hbutn)
    | (refine wpList_st88 rfl _ _ rfl rfl _ rfl (unhide HB) ?_; intro wn hbn hbutn; replace HB := hide hbn; replace HT := hide ((unhide HT).trans hbutn); clear hbn hbutn)
    | (refine wpList_st89 rfl _ _ rfl rfl _ rfl (unhide HB) ?_; intro wn hbn hbutn; replace HB := hide hbn; replace HT := hide ((unhide HT).trans hbutn); clear hbn hbutn))
  go_end0
  refine ⟨rfl, ?_, unhide HT⟩
  have hs := unhide HB
  unfold frS step
  exact hs

set_option maxHeartbeats 4000000 in
set_option maxRecDepth 8000 in
theorem chunk_4 (g : Nat) (v : Nat → Value) (amb : Bool) (left dig b : Int) (w : World) (hb : Blk w g 90 (fr v amb 4 left dig)) :
    Calls Trym.prog 25 #[.pointer (some ⟨g, 0, none⟩), .int .u8 b] w (Chunked g v (step ⟨amb, 4, left, dig⟩ b) w) := by
  have c2 : w.cell? ⟨g, 2, none⟩ = some (.int .i64 4) := hb.cell 2 (by omega)
  have c88 : w.cell? ⟨g, 88, none⟩ = some (.int .u64 left) := hb.cell 88 (by omega)
  have c89 : w.cell? ⟨g, 89, none⟩ = some (.int .i64 dig) := hb.cell 89 (by omega)
  have HB := hide hb
  have HT := hide (But.refl g w)
  clear hb
  by_cases h32 : b = 32
  · subst h32
    go_enter Trym.func25, Trym.ntmps25
    go_wp2_with (first
      | (refine wpList_st0 rfl _ _ rfl rfl _ rfl (unhide HB) ?_; intro wn hbn hbutn; replace HB := hide hbn; replace HT := hide ((unhide HT).trans hbutn); clear hbn hbutn)
      | (refine wpList_st2 rfl _ _ rfl rfl _ rfl (unhide HB) ?_; intro wn hbn hbutn; replace HB := hide hbn; replace HT := hide ((unhide HT).trans hbutn); clear hbn hbutn)
      | (refine wpList_st88 rfl _ _ rfl rfl _ rfl (unhide HB) ?_; intro wn hbn hbutn; replace HB := hide hbn; replace HT := hide ((unhide HT).trans hbutn); clear hbn hbutn)
      | (refine wpList_st89 rfl _ _ rfl rfl _ rfl (unhide HB) ?_; intro wn hbn hbutn; replace HB := hide hbn; replace HT := hide ((unhide HT).trans hbutn); clear hbn hbutn))
    go_end0
    refine ⟨rfl, ?_, unhide HT⟩
    have hs := unhide HB
    unfold frS step
    exact hs
  · have d32 : decide (b = 32) = false := decide_eq_false h32; have e32 : (b == 32) = false := beq_eq_false_iff_ne.2 h32
    by_cases h9 : b = 9
    · subst h9
      go_enter Trym.func25, Trym.ntmps25
      go_wp2_with (first
        | (refine wpList_st0 rfl _ _ rfl rfl _ rfl (unhide HB) ?_; intro wn hbn hbutn; replace HB := hide hbn; replace HT := hide ((unhide HT).trans hbutn); clear hbn hbutn)
        | (refine wpList_st2 rfl _ _ rfl rfl _ rfl (unhide HB) ?_; intro wn hbn hbutn; replace HB := hide hbn; replace HT := hide ((unhide HT).trans hbutn); clear hbn hbutn)
        | (refine wpList_st88 rfl _ _ rfl rfl _ rfl (unhide HB) ?_; intro wn hbn hbutn; replace HB := hide hbn; replace HT := hide ((unhide HT).trans hbutn); clear hbn hbutn)
        | (refine wpList_st89 rfl _ _ rfl rfl _ rfl (unhide HB) ?_; intro wn hbn hbutn; replace HB := hide hbn; replace HT := hide ((unhide HT).trans hbutn); clear hbn hbutn))
      go_end0
      refine ⟨rfl, ?_, unhide HT⟩
      have hs := unhide HB
      unfold frS step
      exact hs
    · have d9 : decide (b = 9) = false := decide_eq_false h9; have e9 : (b == 9) = false := beq_eq_false_iff_ne.2 h9
      by_cases h13 : b = 13
      · subst h13
        go_enter Trym.func25, Trym.ntmps25
        go_wp2_with (first
          | (refine wpList_st0 rfl _ _ rfl rfl _ rfl (unhide HB) ?_; intro wn hbn hbutn; replace HB := hide hbn; replace HT := hide ((unhide HT).trans hbutn); clear hbn hbutn)
          | (refine wpList_st2 rfl _ _ rfl rfl _ rfl (unhide HB) ?_; intro wn hbn hbutn; replace HB := hide hbn; replace HT := hide ((unhide HT).trans hbutn); clear hbn hbutn)
          | (refine wpList_st88 rfl _ _ rfl rfl _ rfl (unhide HB) ?_; intro wn hbn hbutn; replace HB := hide hbn; replace HT := hide ((unhide HT).trans hbutn); clear hbn hbutn)
          | (refine wpList_st89 rfl _ _ rfl rfl _ rfl (unhide HB) ?_; intro wn hbn hbutn; replace HB := hide hbn; replace HT := hide ((unhide HT).trans hbutn); clear hbn hbutn))
        go_end0
        refine ⟨rfl, ?_, unhide HT⟩
        have hs := unhide HB
        unfold frS step
        exact hs
      · have d13 : decide (b = 13) = false := decide_eq_false h13; have e13 : (b == 13) = false := beq_eq_false_iff_ne.2 h13
        go_enter Trym.func25, Trym.ntmps25
        go_wp2_with (first
          | (refine wpList_st0 rfl _ _ rfl rfl _ rfl (unhide HB) ?_; intro wn hbn hbutn; replace HB := hide hbn; replace HT := hide ((unhide HT).trans hbutn); clear hbn hbutn)
          | (refine wpList_st2 rfl _ _ rfl rfl _ rfl (unhide HB) ?_; intro wn hbn hbutn; replace HB := hide hbn; replace HT := hide ((unhide HT).trans hbutn); clear hbn hbutn)
          | (refine wpList_st88 rfl _ _ rfl rfl _ rfl (unhide HB) ?_; intro wn hbn hbutn; replace HB := hide hbn; replace HT := hide ((unhide HT).trans hbutn); clear hbn hbutn)
          | (refine wpList_st89 rfl _ _ rfl rfl _ rfl (unhide HB) ?_; intro wn hbn hbutn; replace HB := hide hbn; replace HT := hide ((unhide HT).trans hbutn); clear hbn hbutn))
        go_end0
        refine ⟨rfl, ?_, unhide HT⟩
        have hs := unhide HB
        unfold frS step
        simp only [h32, h9, h13, or_self, if_false]
        exact hs

set_option maxHeartbeats 4000000 in
set_option maxRecDepth 8000 in
theorem chunk_5 (g : Nat) (v : Nat → Value) (amb : Bool) (left dig b : Int) (w : World) (hb : Blk w g 90 (fr v amb 5 left dig)) :
    Calls Trym.prog 25 #[.pointer (some ⟨g, 0, none⟩), .int .u8 b] w (Chunked g v (step ⟨amb, 5, left, dig⟩ b) w) := by
  have c2 : w.cell? ⟨g, 2, none⟩ = some (.int .i64 5) := hb.cell 2 (by omega)
  have c88 : w.cell? ⟨g, 88, none⟩ = some (.int .u64 left) := hb.cell 88 (by omega)
  have c89 : w.cell? ⟨g, 89, none⟩ = some (.int .i64 dig) := hb.cell 89 (by omega)
  have HB := hide hb
  have HT := hide (But.refl g w)
  clear hb
  by_cases h13 : b = 13
  · subst h13
    go_enter Trym.func25, Trym.ntmps25
    go_wp2_with (first
      | (refine wpList_st0 rfl _ _ rfl rfl _ rfl (unhide HB) ?_; intro wn hbn hbutn; replace HB := hide hbn; replace HT := hide ((unhide HT).trans hbutn); clear hbn hbutn)
      | (refine wpList_st2 rfl _ _ rfl rfl _ rfl (unhide HB) ?_; intro wn hbn hbutn; replace HB := hide hbn; replace HT := hide ((unhide HT).trans hbutn); clear hbn hbutn)
      | (refine wpList_st88 rfl _ _ rfl rfl _ rfl (unhide HB) ?_; intro wn hbn hbutn; replace HB := hide hbn; replace HT := hide ((unhide HT).trans hbutn); clear hbn hbutn)
      | (refine wpList_st89 rfl _ _ rfl rfl _ rfl (unhide HB) ?_; intro wn hbn hbutn; replace HB := hide hbn; replace HT := hide ((unhide HT).trans hbutn); clear hbn hbutn))
    go_end0
    refine ⟨rfl, ?_, unhide HT⟩
    have hs := unhide HB
    unfold frS step
    exact hs
  · have d13 : decide (b = 13) = false := decide_eq_false h13; have e13 : (b == 13) = false := beq_eq_false_iff_ne.2 h13
    by_cases h10 : b = 10
    · subst h10
      go_enter Trym.func25, Trym.ntmps25
      go_wp2_with (first
        | (refine wpList_st0 rfl _ _ rfl rfl _ rfl (unhide HB) ?_; intro wn hbn hbutn; replace HB := hide hbn; replace HT := hide ((unhide HT).trans hbutn); clear hbn hbutn)
        | (refine wpList_st2 rfl _ _ rfl rfl _ rfl (unhide HB) ?_; intro wn hbn hbutn; replace HB := hide hbn; replace HT := hide ((unhide HT).trans hbutn); clear hbn hbutn)
        | (refine wpList_st88 rfl _ _ rfl rfl _ rfl (unhide HB) ?_; intro wn hbn hbutn; replace HB := hide hbn; replace HT := hide ((unhide HT).trans hbutn); clear hbn hbutn)
        | (refine wpList_st89 rfl _ _ rfl rfl _ rfl (unhide HB) ?_; intro wn hbn hbutn; replace HB := hide hbn; replace HT := hide ((unhide HT).trans hbutn); clear hbn hbutn))
      go_end0
      refine ⟨rfl, ?_, unhide HT⟩
      have hs := unhide HB
      unfold frS step
      exact hs
    · have d10 : decide (b = 10) = false := decide_eq_false h10; have e10 : (b == 10) = false := beq_eq_false_iff_ne.2 h10
      go_enter Trym.func25, Trym.ntmps25
      go_wp2_with (first
        | (refine wpList_st0 rfl _ _ rfl rfl _ rfl (unhide HB) ?_; intro wn hbn hbutn; replace HB := hide hbn; replace HT := hide ((unhide HT).trans hbutn); clear hbn hbutn)
        | (refine wpList_st2 rfl _ _ rfl rfl _ rfl (unhide HB) ?_; intro wn hbn hbutn; replace HB := hide hbn; replace HT := hide ((unhide HT).trans hbutn); clear hbn hbutn)
        | (refine wpList_st88 rfl _ _ rfl rfl _ rfl (unhide HB) ?_; intro wn hbn hbutn; replace HB := hide hbn; replace HT := hide ((unhide HT).trans hbutn); clear hbn hbutn)
        | (refine wpList_st89 rfl _ _ rfl rfl _ rfl (unhide HB) ?_; intro wn hbn hbutn; replace HB := hide hbn; replace HT := hide ((unhide HT).trans hbutn); clear hbn hbutn))
      go_end0
      refine ⟨rfl, ?_, unhide HT⟩
      have hs := unhide HB
      unfold frS step
      simp only [h13, h10, if_false]
      exact hs

set_option maxHeartbeats 4000000 in
set_option maxRecDepth 8000 in
theorem chunk_6 (g : Nat) (v : Nat → Value) (amb : Bool) (left dig b : Int) (w : World) (hb : Blk w g 90 (fr v amb 6 left dig)) :
    Calls Trym.prog 25 #[.pointer (some ⟨g, 0, none⟩), .int .u8 b] w (Chunked g v (step ⟨amb, 6, left, dig⟩ b) w) := by
  have c2 : w.cell? ⟨g, 2, none⟩ = some (.int .i64 6) := hb.cell 2 (by omega)
  have c88 : w.cell? ⟨g, 88, none⟩ = some (.int .u64 left) := hb.cell 88 (by omega)
  have c89 : w.cell? ⟨g, 89, none⟩ = some (.int .i64 dig) := hb.cell 89 (by omega)
  have HB := hide hb
  have HT := hide (But.refl g w)
  clear hb
  by_cases h10 : b = 10
  · subst h10
    by_cases h0 : left = 0
    · subst h0
      go_enter Trym.func25, Trym.ntmps25
      go_wp2_with (first
        | (refine wpList_st0 rfl _ _ rfl rfl _ rfl (unhide HB) ?_; intro wn hbn hbutn; replace HB := hide hbn; replace HT := hide ((unhide HT).trans hbutn); clear hbn hbutn)
        | (refine wpList_st2 rfl _ _ rfl rfl _ rfl (unhide HB) ?_; intro wn hbn hbutn; replace HB := hide hbn; replace HT := hide ((unhide HT).trans hbutn); clear hbn hbutn)
        | (refine wpList_st88 rfl _ _ rfl rfl _ rfl (unhide HB) ?_; intro wn hbn hbutn; replace HB := hide hbn; replace HT := hide ((unhide HT).trans hbutn); clear hbn hbutn)
        | (refine wpList_st89 rfl _ _ rfl rfl _ rfl (unhide HB) ?_; intro wn hbn hbutn; replace HB := hide hbn; replace HT := hide ((unhide HT).trans hbutn); clear hbn hbutn))
      go_end0
      refine ⟨rfl, ?_, unhide HT⟩
      have hs := unhide HB
      unfold frS step
      exact hs
    · have d0 : decide (left = 0) = false := decide_eq_false h0
      go_enter Trym.func25, Trym.ntmps25
      go_wp2_with (first
        | (refine wpList_st0 rfl _ _ rfl rfl _ rfl (unhide HB) ?_; intro wn hbn hbutn; replace HB := hide hbn; replace HT := hide ((unhide HT).trans hbutn); clear hbn hbutn)
        | (refine wpList_st2 rfl _ _ rfl rfl _ rfl (unhide HB) ?_; intro wn hbn hbutn; replace HB := hide hbn; replace HT := hide ((unhide HT).trans hbutn); clear hbn hbutn)
        | (refine wpList_st88 rfl _ _ rfl rfl _ rfl (unhide HB) ?_; intro wn hbn hbutn; replace HB := hide hbn; replace HT := hide ((unhide HT).trans hbutn); clear hbn hbutn)
        | (refine wpList_st89 rfl _ _ rfl rfl _ rfl (unhide HB) ?_; intro wn hbn hbutn; replace HB := hide hbn; replace HT := hide ((unhide HT).trans hbutn); clear hbn hbutn))
      go_end0
      refine ⟨rfl, ?_, unhide HT⟩
      have hs := unhide HB
      unfold frS step
      simp only [h0, if_false]
      exact hs
  · have d10 : decide (b = 10) = false := decide_eq_false h10; have e10 : (b == 10) = false := beq_eq_false_iff_ne.2 h10
    go_enter Trym.func25, Trym.ntmps25
    go_wp2_with (first
      | (refine wpList_st0 rfl _ _ rfl rfl _ rfl (unhide HB) ?_; intro wn hbn hbutn; replace HB := hide hbn; replace HT := hide ((unhide HT).trans hbutn); clear hbn hbutn)
      | (refine wpList_st2 rfl _ _ rfl rfl _ rfl (unhide HB) ?_; intro wn hbn hbutn; replace HB := hide hbn; replace HT := hide ((unhide HT).trans hbutn); clear hbn hbutn)
      | (refine wpList_st88 rfl _ _ rfl rfl _ rfl (unhide HB) ?_; intro wn hbn hbutn; replace HB := hide hbn; replace HT := hide ((unhide HT).trans hbutn); clear hbn hbutn)
      | (refine wpList_st89 rfl _ _ rfl rfl _ rfl (unhide HB) ?_; intro wn hbn hbutn; replace HB := hide hbn; replace HT := hide ((unhide HT).trans hbutn); clear hbn hbutn))
    go_end0
    refine ⟨rfl, ?_, unhide HT⟩
    have hs := unhide HB
    unfold frS step
    simp only [h10, if_false]
    exact hs

set_option maxHeartbeats 4000000 in
set_option maxRecDepth 8000 in
theorem chunk_3 (g : Nat) (v : Nat → Value) (amb : Bool) (left dig b : Int) (w : World) (hb : Blk w g 90 (fr v amb 3 left dig)) (hb0 : 0 ≤ b) (hb1 : b < 256) (hd0 : 0 ≤ dig) (hd1 : dig ≤ 16) (hl0 : 0 ≤ left) (hlb : dig < 16 → left < 1152921504606846976) :
    Calls Trym.prog 25 #[.pointer (some ⟨g, 0, none⟩), .int .u8 b] w (Chunked g v (step ⟨amb, 3, left, dig⟩ b) w) := by
  have c2 : w.cell? ⟨g, 2, none⟩ = some (.int .i64 3) := hb.cell 2 (by omega)
  have c88 : w.cell? ⟨g, 88, none⟩ = some (.int .u64 left) := hb.cell 88 (by omega)
  have c89 : w.cell? ⟨g, 89, none⟩ = some (.int .i64 dig) := hb.cell 89 (by omega)
  have HB := hide hb
  have HT := hide (But.refl g w)
  clear hb
  cases hx : hexv b with
  | some d =>
    have HX := hide hx
    have hd := hexv_bd hx
    clear hx
    by_cases h16 : dig < 16
    · have hl60 := hlb h16
      go_enter Trym.func25, Trym.ntmps25
      go_wp2_with (first
        | (refine wpList_st0 rfl _ _ rfl rfl _ rfl (unhide HB) ?_; intro wn hbn hbutn; replace HB := hide hbn; replace HT := hide ((unhide HT).trans hbutn); clear hbn hbutn)
        | (refine wpList_st2 rfl _ _ rfl rfl _ rfl (unhide HB) ?_; intro wn hbn hbutn; replace HB := hide hbn; replace HT := hide ((unhide HT).trans hbutn); clear hbn hbutn)
        | (refine wpList_st88 rfl _ _ rfl rfl _ rfl (unhide HB) ?_; intro wn hbn hbutn; have c89 : wn.cell? ⟨g, 89, none⟩ = some (.int .i64 dig) := hbn.cell 89 (by omega); replace HB := hide hbn; replace HT := hide ((unhide HT).trans hbutn); clear hbn hbutn)
        | (refine wpList_st89 rfl _ _ rfl rfl _ rfl (unhide HB) ?_; intro wn hbn hbutn; replace HB := hide hbn; replace HT := hide ((unhide HT).trans hbutn); clear hbn hbutn)
        | (go_at_call 29
           refine (hexDigit_any _ w hb0 hb1).mono ?_
           rintro e w' ⟨rfl, hw⟩
           obtain rfl := hw.symm
           rw [unhide HX]
           simp only [Option.getD_some, Option.getD_none, Option.isSome_some, Option.isSome_none]))
      go_end0
      refine ⟨rfl, ?_, unhide HT⟩
      have hs := unhide HB
      unfold frS step stepSize
      rw [unhide HX]
      rw [or_u64 left d hl0 hl60 hd.1 hd.2] at hs
      simp only [h16, if_true]
      exact hs
    · have d16 : decide (dig < 16) = false := decide_eq_false h16
      go_enter Trym.func25, Trym.ntmps25
      go_wp2_with (first
        | (refine wpList_st0 rfl _ _ rfl rfl _ rfl (unhide HB) ?_; intro wn hbn hbutn; replace HB := hide hbn; replace HT := hide ((unhide HT).trans hbutn); clear hbn hbutn)
        | (refine wpList_st2 rfl _ _ rfl rfl _ rfl (unhide HB) ?_; intro wn hbn hbutn; replace HB := hide hbn; replace HT := hide ((unhide HT).trans hbutn); clear hbn hbutn)
        | (refine wpList_st88 rfl _ _ rfl rfl _ rfl (unhide HB) ?_; intro wn hbn hbutn; have c89 : wn.cell? ⟨g, 89, none⟩ = some (.int .i64 dig) := hbn.cell 89 (by omega); replace HB := hide hbn; replace HT := hide ((unhide HT).trans hbutn); clear hbn hbutn)
        | (refine wpList_st89 rfl _ _ rfl rfl _ rfl (unhide HB) ?_; intro wn hbn hbutn; replace HB := hide hbn; replace HT := hide ((unhide HT).trans hbutn); clear hbn hbutn)
        | (go_at_call 29
           refine (hexDigit_any _ w hb0 hb1).mono ?_
           rintro e w' ⟨rfl, hw⟩
           obtain rfl := hw.symm
           rw [unhide HX]
           simp only [Option.getD_some, Option.getD_none, Option.isSome_some, Option.isSome_none]))
      go_end0
      refine ⟨rfl, ?_, unhide HT⟩
      have hs := unhide HB
      unfold frS step stepSize
      rw [unhide HX]
      have hn16 : ¬ dig < 16 := by omega
      simp only [hn16, if_true, if_false]
      exact hs
  | none =>
    have HX := hide hx
    clear hx
    by_cases h0 : dig = 0
    · subst h0
      go_enter Trym.func25, Trym.ntmps25
      go_wp2_with (first
        | (refine wpList_st0 rfl _ _ rfl rfl _ rfl (unhide HB) ?_; intro wn hbn hbutn; replace HB := hide hbn; replace HT := hide ((unhide HT).trans hbutn); clear hbn hbutn)
        | (refine wpList_st2 rfl _ _ rfl rfl _ rfl (unhide HB) ?_; intro wn hbn hbutn; replace HB := hide hbn; replace HT := hide ((unhide HT).trans hbutn); clear hbn hbutn)
        | (refine wpList_st88 rfl _ _ rfl rfl _ rfl (unhide HB) ?_; intro wn hbn hbutn; have c89 : wn.cell? ⟨g, 89, none⟩ = some (.int .i64 dig) := hbn.cell 89 (by omega); replace HB := hide hbn; replace HT := hide ((unhide HT).trans hbutn); clear hbn hbutn)
        | (refine wpList_st89 rfl _ _ rfl rfl _ rfl (unhide HB) ?_; intro wn hbn hbutn; replace HB := hide hbn; replace HT := hide ((unhide HT).trans hbutn); clear hbn hbutn)
        | (go_at_call 29
           refine (hexDigit_any _ w hb0 hb1).mono ?_
           rintro e w' ⟨rfl, hw⟩
           obtain rfl := hw.symm
           rw [unhide HX]
           simp only [Option.getD_some, Option.getD_none, Option.isSome_some, Option.isSome_none]))
      go_end0
      refine ⟨rfl, ?_, unhide HT⟩
      have hs := unhide HB
      unfold frS step stepSize
      rw [unhide HX]
      simp only [if_true]
      exact hs
    · have d0 : decide (dig = 0) = false := decide_eq_false h0
      have e0 : (dig == 0) = false := beq_eq_false_iff_ne.2 h0
      by_cases h59 : b = 59
      · subst h59
        go_enter Trym.func25, Trym.ntmps25
        go_wp2_with (first
          | (refine wpList_st0 rfl _ _ rfl rfl _ rfl (unhide HB) ?_; intro wn hbn hbutn; replace HB := hide hbn; replace HT := hide ((unhide HT).trans hbutn); clear hbn hbutn)
          | (refine wpList_st2 rfl _ _ rfl rfl _ rfl (unhide HB) ?_; intro wn hbn hbutn; replace HB := hide hbn; replace HT := hide ((unhide HT).trans hbutn); clear hbn hbutn)
          | (refine wpList_st88 rfl _ _ rfl rfl _ rfl (unhide HB) ?_; intro wn hbn hbutn; have c89 : wn.cell? ⟨g, 89, none⟩ = some (.int .i64 dig) := hbn.cell 89 (by omega); replace HB := hide hbn; replace HT := hide ((unhide HT).trans hbutn); clear hbn hbutn)
          | (refine wpList_st89 rfl _ _ rfl rfl _ rfl (unhide HB) ?_; intro wn hbn hbutn; replace HB := hide hbn; replace HT := hide ((unhide HT).trans hbutn); clear hbn hbutn)
          | (go_at_call 29
             refine (hexDigit_any _ w hb0 hb1).mono ?_
             rintro e w' ⟨rfl, hw⟩
             obtain rfl := hw.symm
             rw [unhide HX]
             simp only [Option.getD_some, Option.getD_none, Option.isSome_some, Option.isSome_none]))
        go_end0
        refine ⟨rfl, ?_, unhide HT⟩
        have hs := unhide HB
        unfold frS step stepSize
        rw [unhide HX]
        simp only [h0, if_true, if_false]
        exact hs
      · have d59 : decide (b = 59) = false := decide_eq_false h59; have e59 : (b == 59) = false := beq_eq_false_iff_ne.2 h59
        by_cases h32 : b = 32
        · subst h32
          go_enter Trym.func25, Trym.ntmps25
          go_wp2_with (first
            | (refine wpList_st0 rfl _ _ rfl rfl _ rfl (unhide HB) ?_; intro wn hbn hbutn; replace HB := hide hbn; replace HT := hide ((unhide HT).trans hbutn); clear hbn hbutn)
            | (refine wpList_st2 rfl _ _ rfl rfl _ rfl (unhide HB) ?_; intro wn hbn hbutn; replace HB := hide hbn; replace HT := hide ((unhide HT).trans hbutn); clear hbn hbutn)
            | (refine wpList_st88 rfl _ _ rfl rfl _ rfl (unhide HB) ?_; intro wn hbn hbutn; have c89 : wn.cell? ⟨g, 89, none⟩ = some (.int .i64 dig) := hbn.cell 89 (by omega); replace HB := hide hbn; replace HT := hide ((unhide HT).trans hbutn); clear hbn hbutn)
            | (refine wpList_st89 rfl _ _ rfl rfl _ rfl (unhide HB) ?_; intro wn hbn hbutn; replace HB := hide hbn; replace HT := hide ((unhide HT).trans hbutn); clear hbn hbutn)
            | (go_at_call 29
               refine (hexDigit_any _ w hb0 hb1).mono ?_
               rintro e w' ⟨rfl, hw⟩
               obtain rfl := hw.symm
               rw [unhide HX]
               simp only [Option.getD_some, Option.getD_none, Option.isSome_some, Option.isSome_none]))
          go_end0
          refine ⟨rfl, ?_, unhide HT⟩
          have hs := unhide HB
          unfold frS step stepSize
          rw [unhide HX]
          simp only [h0, if_true, if_false]
          exact hs
        · have d32 : decide (b = 32) = false := decide_eq_false h32; have e32 : (b == 32) = false := beq_eq_false_iff_ne.2 h32
          by_cases h9 : b = 9
          · subst h9
            go_enter Trym.func25, Trym.ntmps25
            go_wp2_with (first
              | (refine wpList_st0 rfl _ _ rfl rfl _ rfl (unhide HB) ?_; intro wn hbn hbutn; replace HB := hide hbn; replace HT := hide ((unhide HT).trans hbutn); clear hbn hbutn)
              | (refine wpList_st2 rfl _ _ rfl rfl _ rfl (unhide HB) ?_; intro wn hbn hbutn; replace HB := hide hbn; replace HT := hide ((unhide HT).trans hbutn); clear hbn hbutn)
              | (refine wpList_st88 rfl _ _ rfl rfl _ rfl (unhide HB) ?_; intro wn hbn hbutn; have c89 : wn.cell? ⟨g, 89, none⟩ = some (.int .i64 dig) := hbn.cell 89 (by omega); replace HB := hide hbn; replace HT := hide ((unhide HT).trans hbutn); clear hbn hbutn)
              | (refine wpList_st89 rfl _ _ rfl rfl _ rfl (unhide HB) ?_; intro wn hbn hbutn; replace HB := hide hbn; replace HT := hide ((unhide HT).trans hbutn); clear hbn hbutn)
              | (go_at_call 29
                 refine (hexDigit_any _ w hb0 hb1).mono ?_
                 rintro e w' ⟨rfl, hw⟩
                 obtain rfl := hw.symm
                 rw [unhide HX]
                 simp only [Option.getD_some, Option.getD_none, Option.isSome_some, Option.isSome_none]))
            go_end0
            refine ⟨rfl, ?_, unhide HT⟩
            have hs := unhide HB
            unfold frS step stepSize
            rw [unhide HX]
            simp only [h0, if_true, if_false]
            exact hs
          · have d9 : decide (b = 9) = false := decide_eq_false h9; have e9 : (b == 9) = false := beq_eq_false_iff_ne.2 h9
            by_cases h13 : b = 13
            · subst h13
              go_enter Trym.func25, Trym.ntmps25
              go_wp2_with (first
                | (refine wpList_st0 rfl _ _ rfl rfl _ rfl (unhide HB) ?_; intro wn hbn hbutn; replace HB := hide hbn; replace HT := hide ((unhide HT).trans hbutn); clear hbn hbutn)
                | (refine wpList_st2 rfl _ _ rfl rfl _ rfl (unhide HB) ?_; intro wn hbn hbutn; replace HB := hide hbn; replace HT := hide ((unhide HT).trans hbutn); clear hbn hbutn)
                | (refine wpList_st88 rfl _ _ rfl rfl _ rfl (unhide HB) ?_; intro wn hbn hbutn; have c89 : wn.cell? ⟨g, 89, none⟩ = some (.int .i64 dig) := hbn.cell 89 (by omega); replace HB := hide hbn; replace HT := hide ((unhide HT).trans hbutn); clear hbn hbutn)
                | (refine wpList_st89 rfl _ _ rfl rfl _ rfl (unhide HB) ?_; intro wn hbn hbutn; replace HB := hide hbn; replace HT := hide ((unhide HT).trans hbutn); clear hbn hbutn)
                | (go_at_call 29
                   refine (hexDigit_any _ w hb0 hb1).mono ?_
                   rintro e w' ⟨rfl, hw⟩
                   obtain rfl := hw.symm
                   rw [unhide HX]
                   simp only [Option.getD_some, Option.getD_none, Option.isSome_some, Option.isSome_none]))
              go_end0
              refine ⟨rfl, ?_, unhide HT⟩
              have hs := unhide HB
              unfold frS step stepSize
              rw [unhide HX]
              simp only [h0, if_true, if_false]
              exact hs
            · have d13 : decide (b = 13) = false := decide_eq_false h13; have e13 : (b == 13) = false := beq_eq_false_iff_ne.2 h13
              go_enter Trym.func25, Trym.ntmps25
              go_wp2_with (first
                | (refine wpList_st0 rfl _ _ rfl rfl _ rfl (unhide HB) ?_; intro wn hbn hbutn; replace HB := hide hbn; replace HT := hide ((unhide HT).trans hbutn); clear hbn hbutn)
                | (refine wpList_st2 rfl _ _ rfl rfl _ rfl (unhide HB) ?_; intro wn hbn hbutn; replace HB := hide hbn; replace HT := hide ((unhide HT).trans hbutn); clear hbn hbutn)
                | (refine wpList_st88 rfl _ _ rfl rfl _ rfl (unhide HB) ?_; intro wn hbn hbutn; have c89 : wn.cell? ⟨g, 89, none⟩ = some (.int .i64 dig) := hbn.cell 89 (by omega); replace HB := hide hbn; replace HT := hide ((unhide HT).trans hbutn); clear hbn hbutn)
                | (refine wpList_st89 rfl _ _ rfl rfl _ rfl (unhide HB) ?_; intro wn hbn hbutn; replace HB := hide hbn; replace HT := hide ((unhide HT).trans hbutn); clear hbn hbutn)
                | (go_at_call 29
                   refine (hexDigit_any _ w hb0 hb1).mono ?_
                   rintro e w' ⟨rfl, hw⟩
                   obtain rfl := hw.symm
                   rw [unhide HX]
                   simp only [Option.getD_some, Option.getD_none, Option.isSome_some, Option.isSome_none]))
              go_end0
              refine ⟨rfl, ?_, unhide HT⟩
              have hs := unhide HB
              unfold frS step stepSize
              rw [unhide HX]
              simp only [h0, h59, h32, h9, h13, or_self, if_true, if_false]
              exact hs
end Go.Proofs.Qxb6602878aMods
