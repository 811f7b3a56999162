/- Seat b6602878aM: a region that draws its order: the operations of its head yield their values in every world that meets S; its tail is a forced row of operations, each of which keeps S. -/
import Derived.Test.Qxb6602878aModsAdd
import Derived.OrdersHeld
namespace Go.Proofs.Qxb6602878aMods
open Go.RowKit

section
variable {P : Program} {ops : Array Oper} {Q : Exit → Act → World → Prop} {md : Region.Mode} {S : World → Prop}

/-- The head, in the order of the text: each operation yields a value in every world that meets S. -/
def wpHeld (P : Program) (ops : Array Oper) (S : World → Prop) (Q' : Act → Prop) : List Oper → Act → Prop
  | [], a => Q' a
  | o :: rest, a => ∃ v, YieldsIf P ops S o v a ∧ wpHeld P ops S Q' rest (a.put o.dst v)

/-- The tail, one behind the other, S behind each. -/
def wpTail (P : Program) (ops : Array Oper) (Q : Exit → Act → World → Prop) (S : World → Prop) : List Oper → Act → World → Prop
  | [], a, w => Q .normal a w
  | o :: rest, a, w =>
    if Region.wanted o (yielded ops a.tmps) then o.wp P a w (fun a' w' => S w' ∧ wpTail P ops Q S rest a' w') Q else S w ∧ wpTail P ops Q S rest (a.put o.dst undef) w

theorem wpAnyH_seq : ∀ (l : List Oper) (k : Nat) (listed : Array Bool) (a : Act) (w : World), (∀ j, j < l.length → l[j]? = ops[k + j]?) → Region.seqB md ops l.length k listed = true →
    wpTail P ops Q S l a w → wpAnyH P md ops Q S l.length listed a w
  | [], k, listed, a, w, _, hB, h => ⟨by simpa [Region.seqB] using hB, h⟩
  | o :: l, k, listed, a, w, hl, hB, h => by
    have h0 : ops[k]? = some o := by simpa using (hl 0 (by simp)).symm
    simp only [List.length_cons, Region.seqB, Bool.and_eq_true, decide_eq_true_eq] at hB
    refine ⟨fun h1 => (by rw [hB.1] at h1; cases h1), fun i hi => ?_⟩
    rw [hB.1] at hi
    have hik : i = k := by simpa using hi
    subst hik
    have ih : ∀ a' w', (S w' ∧ wpTail P ops Q S l a' w') → S w' ∧ wpAnyH P md ops Q S l.length (listed.setIfInBounds i true) a' w' := fun a' w' h' =>
      ⟨h'.1, wpAnyH_seq l (i + 1) _ a' w' (fun j hj => by have := hl (j + 1) (by simp; omega); simpa [Nat.add_assoc, Nat.add_comm 1 j] using this) hB.2 h'.2⟩
    unfold wpOp
    simp only [h0]
    unfold wpTail at h
    split
    · rename_i hw
      rw [if_pos hw] at h
      exact .inl (Oper.wp_mono (fun a' w' h' => ih a' w' h') h)
    · rename_i hw
      rw [if_neg hw] at h
      exact ih _ _ h

theorem wpAnyH_head (hsel : Region.noSelect ops = true) (hQ : ∀ c a d v w, Q (.panic c) (Act.put a d v) w → Q (.panic c) a w) {g : Nat} {w : World} (hS : S w) {Q' : Act → Prop} :
    ∀ (l : List Oper) (k : Nat) (listed : Array Bool) (a : Act), (∀ j, j < l.length → l[j]? = ops[k + j]?) → Region.lexHead md ops g l.length k listed = true → wpHeld P ops S Q' l a →
    (∀ listed' a', Region.seqB md ops g (k + l.length) listed' = true → Q' a' → wpAnyH P md ops Q S g listed' a' w) → wpAnyH P md ops Q S (l.length + g) listed a w
  | [], k, listed, a, _, hB, h, hend => by
    have := hend listed a (by simpa [Region.lexHead] using hB) h
    simpa using this
  | o :: l, k, listed, a, hl, hB, h, hend => by
    have h0 : ops[k]? = some o := by simpa using (hl 0 (by simp)).symm
    simp only [List.length_cons, Region.lexHead, Bool.and_eq_true] at hB
    obtain ⟨⟨hr, hf⟩, hB'⟩ := hB
    obtain ⟨v, hy, hK⟩ := h
    have ih := wpAnyH_head hsel hQ hS l (k + 1) (listed.setIfInBounds k true) (a.put o.dst v) (fun j hj => by have := hl (j + 1) (by simp; omega); simpa [Nat.add_assoc, Nat.add_comm 1 j] using this) hB' hK
      (fun listed' a' hs hq => hend listed' a' (by rw [List.length_cons]; rw [show k + (l.length + 1) = k + 1 + l.length by omega]; exact hs) hq)
    rw [List.length_cons, show l.length + 1 + g = (l.length + g) + 1 by omega]
    exact wpAnyH_take h0 hsel hf hr (fun c a w => hQ c a o.dst v w) hy hS ih

/-- The head first, then the tail. -/
theorem wp_region_held_tail {id : Nat} {a : Act} {w : World} {l : List Oper} (n : Nat) (S : World → Prop) (hm : P.follows .mixedOrders = true) (hQ : ∀ c a d v w, Q (.panic c) (Act.put a d v) w → Q (.panic c) a w)
    (hB : (Region.noSelect l.toArray && decide (n ≤ l.length) && Region.lexHead .any l.toArray (l.length - n) n 0 (Array.replicate l.length false)) = true) (hS : S w.drew)
    (h : wpHeld P l.toArray S (fun a' => wpTail P l.toArray Q S (l.drop n) a' w.drew) (l.take n) a) : (Code.region id l.toArray true).wp P Q a w := by
  simp only [Bool.and_eq_true, decide_eq_true_eq] at hB
  obtain ⟨⟨hsel, hn⟩, hlex⟩ := hB
  have htl : (l.take n).length = n := by simp; omega
  have hdl : (l.drop n).length = l.length - n := by simp
  refine wp_region_held (S := S) hm ?_
  have H := wpAnyH_head (P := P) (md := .any) (Q := Q) (S := S) (g := l.length - n) (w := w.drew) hsel hQ hS (l.take n) 0 (Array.replicate l.length false) a
    (fun j hj => by rw [htl] at hj; simp [hj]) (by rw [htl]; exact hlex) h (fun listed' a' hs hq => by
      have := wpAnyH_seq (P := P) (md := .any) (l.drop n) n listed' a' w.drew (fun j _ => by simp [List.getElem?_drop]) (by rw [hdl]; rw [Nat.zero_add, htl] at hs; exact hs) hq
      rw [hdl] at this
      exact this)
  rw [htl, show n + (l.length - n) = l.length by omega] at H
  simpa using H

theorem wpHeld_nil {Q' : Act → Prop} {a : Act} (h : Q' a) : wpHeld P ops S Q' [] a := h
/-- A step of the head, for an operation without a guard. -/
theorem wpHeld_step {Q' : Act → Prop} {a : Act} {o : Oper} {rest : List Oper} (hg : o.guard = none) (v : Value) (hr : ∀ w, S w → (execOp a.eval o).run P w = .ok (.value v) w) (h : wpHeld P ops S Q' rest (a.put o.dst v)) : wpHeld P ops S Q' (o :: rest) a :=
  ⟨v, .inl ⟨by simp [Region.wanted, hg], hr⟩, h⟩
theorem wpTail_nil {a : Act} {w : World} (h : Q .normal a w) : wpTail P ops Q S [] a w := h
theorem wpTail_step {a : Act} {w : World} {o : Oper} {rest : List Oper} (hg : o.guard = none) (h : ∀ K : Act → World → Prop, (∀ a' w', S w' → wpTail P ops Q S rest a' w' → K a' w') → o.wp P a w K Q) : wpTail P ops Q S (o :: rest) a w := by
  unfold wpTail
  rw [if_pos (by simp [Region.wanted, hg])]
  exact h _ (fun a' w' h1 h2 => ⟨h1, h2⟩)

/-! ### the head's operations -/
theorem held_move {Q' : Act → Prop} {a : Act} {o : Oper} {rest : List Oper} (hg : o.guard = none) (x : Operand) (ho : o.op = .move x) (v : Value) (hx : a.eval x = v) (h : wpHeld P ops S Q' rest (a.put o.dst v)) : wpHeld P ops S Q' (o :: rest) a :=
  wpHeld_step hg v (fun w _ => by simp [execOp, ho, hx]) h

/-- Where field i of the struct type s lies (a field that takes room). -/
def fieldOff (P : Program) (s : TypeId) (i : Nat) : Option Nat :=
  match P.underlying s with
  | some (.struct fs) => match fs[i]? with
    | some f => match P.info? f.type with
      | some j => if j.size = 0 then none else some f.offset
      | none => none
    | none => none
  | _ => none

theorem run_fieldAt {s : TypeId} {i d : Nat} (hf : fieldOff P s i = some d) (g off : Nat) (w : World) :
    (Instr.fieldAt s (.pointer (some ⟨g, off, none⟩)) i).run P w = .ok (.pointer (some ⟨g, off + d, none⟩)) w := by
  unfold fieldOff at hf
  split at hf
  case h_2 => cases hf
  case h_1 fs hu =>
    split at hf
    case h_2 => cases hf
    case h_1 f hfi =>
      split at hf
      case h_2 => cases hf
      case h_1 j hj =>
        split at hf
        · cases hf
        · rename_i h0
          injection hf with hf
          subst hf
          simp [Instr.fieldAt, Instr.sureAddr, run_underlying hu, hfi, fieldPlace, sizeOf, typeInfo, hj, h0, Addr.add_lit]

theorem held_field {Q' : Act → Prop} {a : Act} {o : Oper} {rest : List Oper} (hg : o.guard = none) (s : TypeId) (x : Operand) (i : Nat) (ho : o.op = .fieldAddr s x i) {d : Nat} (hf : fieldOff P s i = some d) (g off : Nat) (hx : a.eval x = .pointer (some ⟨g, off, none⟩))
    (h : wpHeld P ops S Q' rest (a.put o.dst (.pointer (some ⟨g, off + d, none⟩)))) : wpHeld P ops S Q' (o :: rest) a :=
  wpHeld_step hg _ (fun w _ => by simp [execOp, ho, hx, run_fieldAt hf g off w]) h

/-- A type of one cell. -/
def single (P : Program) (t : TypeId) : Bool :=
  match P.underlying t with
  | some (.struct _) | some (.array _ _) | none => false
  | _ => true

theorem run_isAgg_single {t : TypeId} (h : single P t = true) (w : World) : (isAgg t).run P w = .ok false w := by
  unfold single at h
  unfold isAgg
  cases hu : P.underlying t with
  | none => simp [hu] at h
  | some d =>
    rw [Sem.run_bind, run_underlying hu w]
    rw [hu] at h
    cases d <;> simp_all

theorem run_loadAt_single {t : TypeId} (h : single P t = true) (g off : Nat) (v : Value) (w : World) (hc : w.cell? ⟨g, off, none⟩ = some v) : (Instr.loadAt t (.pointer (some ⟨g, off, none⟩))).run P w = .ok v w := by
  simp [Instr.loadAt, Instr.sureAddr, loadVar, run_isAgg_single h w, go_sem, hc]

theorem held_load {Q' : Act → Prop} {a : Act} {o : Oper} {rest : List Oper} (hg : o.guard = none) (t : TypeId) (x : Operand) (ho : o.op = .load t x) (ht : single P t = true) (g off : Nat) (hx : a.eval x = .pointer (some ⟨g, off, none⟩)) (v : Value)
    (hc : ∀ w, S w → w.cell? ⟨g, off, none⟩ = some v) (h : wpHeld P ops S Q' rest (a.put o.dst v)) : wpHeld P ops S Q' (o :: rest) a :=
  wpHeld_step hg v (fun w hw => by simp only [execOp, ho, hx, Sem.run_bind, run_loadAt_single ht g off v w (hc w hw)]; rfl) h

theorem held_load_agg {Q' : Act → Prop} {a : Act} {o : Oper} {rest : List Oper} (hg : o.guard = none) (t : TypeId) (x : Operand) (ho : o.op = .load t x) {n : Nat} (ht : Agg P t n) (g off : Nat) (hx : a.eval x = .pointer (some ⟨g, off, none⟩)) (f : Nat → Value)
    (hc : ∀ w, S w → ∀ j, j < n → w.cell? ⟨g, off + j, none⟩ = some (f j)) (h : wpHeld P ops S Q' rest (a.put o.dst (.agg (arr n f)))) : wpHeld P ops S Q' (o :: rest) a :=
  wpHeld_step hg _ (fun w hw => by simp only [execOp, ho, hx, Sem.run_bind, run_loadAt_agg ht w g off f (hc w hw)]; rfl) h

/-! ### the tail's operations -/
theorem tail_assign {a : Act} {w : World} {o : Oper} {rest : List Oper} (hg : o.guard = none) (x : Operand) (ho : o.op = .assign x) (v : Value) (hx : a.eval x = v) (hS : S w) (h : wpTail P ops Q S rest (a.put o.dst v) w) : wpTail P ops Q S (o :: rest) a w :=
  wpTail_step hg fun K hK => by
    unfold Oper.wp
    simp only [execOp, ho, hx, Sem.run_pure]
    exact hK _ _ hS h

theorem tail_store_agg {a : Act} {w : World} {o : Oper} {rest : List Oper} (hgd : o.guard = none) (t : TypeId) (x y : Operand) (ho : o.op = .store t x y) {n : Nat} (ht : Agg P t n)
    (g off m : Nat) (f v : Nat → Value) (hx : a.eval x = .pointer (some ⟨g, off, none⟩)) (hy : a.eval y = .agg (arr n f)) (hb : Blk w g m v) (hfit : off + n ≤ m) (h1 : Ones n f)
    (hK : ∀ w', Blk w' g m (put off n f v) → But g w w' → S w' ∧ wpTail P ops Q S rest (a.put o.dst undef) w') : wpTail P ops Q S (o :: rest) a w :=
  wpTail_step hgd fun K hK' => by
    obtain ⟨w', hr, hb', hbut⟩ := run_storeAt_agg ht w g off m f v hb hfit h1
    unfold Oper.wp
    simp only [execOp, ho, hx, hy, Sem.run_bind, hr]
    exact hK' _ _ (hK w' hb' hbut).1 (hK w' hb' hbut).2
end
end Go.Proofs.Qxb6602878aMods
