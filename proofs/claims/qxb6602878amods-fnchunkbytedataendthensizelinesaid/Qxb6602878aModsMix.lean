/- Seat b6602878aM: a region that draws its order, walked by a list of steps. -/
import Derived.Test.Qxb6602878aModsOut
namespace Go.Proofs.Qxb6602878aMods
open Go.RowKit

section
variable {P : Program} {ops : Array Oper} {Q : Exit → Act → World → Prop} {S : World → Prop}
/-- The steps of a region that draws: 'true': the operation is taken ahead, since it yields its value in every world that meets S; 'false': the only one that may come up. -/
def wpMx (P : Program) (ops : Array Oper) (Q : Exit → Act → World → Prop) (S : World → Prop) : List (Bool × Nat) → Act → World → Prop
  | [], a, w => Q .normal a w
  | (true, k) :: rest, a, w => ∃ o v, ops[k]? = some o ∧ YieldsIf P ops S o v a ∧ wpMx P ops Q S rest (a.put o.dst v) w
  | (false, k) :: rest, a, w => ∃ o, ops[k]? = some o ∧
    if Region.wanted o (yielded ops a.tmps) then o.wp P a w (fun a' w' => S w' ∧ wpMx P ops Q S rest a' w') Q else wpMx P ops Q S rest (a.put o.dst undef) w
def Region.mxB (md : Region.Mode) (ops : Array Oper) : List (Bool × Nat) → Array Bool → Bool
  | [], listed => (Region.ready md ops listed).isEmpty
  | (true, k) :: ks, listed => (Region.ready md ops listed).contains k && Region.free md ops listed k && Region.mxB md ops ks (listed.setIfInBounds k true)
  | (false, k) :: ks, listed => decide (Region.ready md ops listed = [k]) && Region.mxB md ops ks (listed.setIfInBounds k true)
theorem wpAnyH_mx {md : Region.Mode} (hsel : Region.noSelect ops = true) (hQ : ∀ c a d v w, Q (.panic c) (Act.put a d v) w → Q (.panic c) a w) :
    ∀ (ks : List (Bool × Nat)) (listed : Array Bool) (a : Act) (w : World), Region.mxB md ops ks listed = true → S w → wpMx P ops Q S ks a w → wpAnyH P md ops Q S ks.length listed a w
  | [], listed, a, w, hB, _, h => ⟨by simpa [Region.mxB] using hB, h⟩
  | (true, k) :: ks, listed, a, w, hB, hS, h => by
    simp only [Region.mxB, Bool.and_eq_true] at hB
    obtain ⟨⟨hr, hf⟩, hB'⟩ := hB
    obtain ⟨o, v, h0, hy, hK⟩ := h
    exact wpAnyH_take h0 hsel hf hr (fun c a w => hQ c a o.dst v w) hy hS (wpAnyH_mx hsel hQ ks _ _ w hB' hS hK)
  | (false, k) :: ks, listed, a, w, hB, hS, h => by
    simp only [Region.mxB, Bool.and_eq_true, decide_eq_true_eq] at hB
    obtain ⟨hr, hB'⟩ := hB
    refine ⟨fun h1 => (by rw [hr] at h1; cases h1), fun i hi => ?_⟩
    rw [hr] at hi
    have hik : i = k := by simpa using hi
    subst hik
    obtain ⟨o, h0, h⟩ := h
    unfold wpOp
    simp only [h0]
    split
    · rename_i hw
      rw [if_pos hw] at h
      exact .inl (Oper.wp_mono (fun a' w' h' => ⟨h'.1, wpAnyH_mx hsel hQ ks _ _ _ hB' h'.1 h'.2⟩) h)
    · rename_i hw
      rw [if_neg hw] at h
      exact ⟨hS, wpAnyH_mx hsel hQ ks _ _ _ hB' hS h⟩
/-- A region that draws, by its steps. -/
theorem wp_region_mx {id : Nat} {a : Act} {w : World} (ks : List (Bool × Nat)) (S : World → Prop) (hm : P.follows .mixedOrders = true) (hQ : ∀ c a d v w, Q (.panic c) (Act.put a d v) w → Q (.panic c) a w)
    (hB : (Region.noSelect ops && decide (ks.length = ops.size) && Region.mxB .any ops ks (Array.replicate ops.size false)) = true) (hS : S w.drew)
    (h : wpMx P ops Q S ks a w.drew) : (Code.region id ops true).wp P Q a w := by
  simp only [Bool.and_eq_true, decide_eq_true_eq] at hB
  obtain ⟨⟨hsel, hn⟩, hmx⟩ := hB
  refine wp_region_held (S := S) hm ?_
  have H := wpAnyH_mx (P := P) (md := .any) (Q := Q) (S := S) hsel hQ ks _ a w.drew hmx hS h
  rw [hn] at H
  exact H

theorem mx_nil {a : Act} {w : World} (h : Q .normal a w) : wpMx P ops Q S [] a w := h
theorem mx_frame {ks : List (Bool × Nat)} {a a' : Act} {w : World} (ha : a = a') (h : wpMx P ops Q S ks a' w) : wpMx P ops Q S ks a w := ha ▸ h
/-- Operation k. -/
def At (ops : Array Oper) (k : Nat) (d : Option Tmp) (op : Op) (gd : Option (Nat × Bool)) : Prop := ∃ o, ops[k]? = some o ∧ o.dst = d ∧ o.op = op ∧ o.guard = gd
def Wanted (ops : Array Oper) (tmps : Array Value) : Option (Nat × Bool) → Prop
  | none => True
  | some (j, b) => yielded ops tmps j = some b
theorem wanted_of {o : Oper} {tmps : Array Value} (h : Wanted ops tmps o.guard) : Region.wanted o (yielded ops tmps) = true := by
  unfold Wanted at h
  cases hg : o.guard with
  | none => simp [Region.wanted, hg]
  | some q => rw [hg] at h; simp [Region.wanted, hg, h]
section
variable {k : Nat} {a : Act} {w : World} {rest : List (Bool × Nat)} {d : Option Tmp} {gd : Option (Nat × Bool)}
theorem mx_step {op : Op} (hk : At ops k d op gd) (hg : Wanted ops a.tmps gd) (v : Value) (hr : ∀ o : Oper, o.op = op → ∀ w, S w → (execOp a.eval o).run P w = .ok (.value v) w) (h : wpMx P ops Q S rest (a.put d v) w) : wpMx P ops Q S ((true, k) :: rest) a w := by
  obtain ⟨o, h0, rfl, h2, rfl⟩ := hk
  exact ⟨o, v, h0, .inl ⟨wanted_of hg, hr o h2⟩, h⟩
theorem mx_move {x : Operand} (hk : At ops k d (.move x) gd) (hg : Wanted ops a.tmps gd) (v : Value) (hx : a.eval x = v) (h : wpMx P ops Q S rest (a.put d v) w) : wpMx P ops Q S ((true, k) :: rest) a w :=
  mx_step hk hg v (fun o ho w _ => by simp [execOp, ho, hx]) h
theorem mx_assign {x : Operand} (hk : At ops k d (.assign x) gd) (hg : Wanted ops a.tmps gd) (v : Value) (hx : a.eval x = v) (h : wpMx P ops Q S rest (a.put d v) w) : wpMx P ops Q S ((true, k) :: rest) a w :=
  mx_step hk hg v (fun o ho w _ => by simp [execOp, ho, hx]) h
theorem mx_nilc {x : Operand} (hk : At ops k d (.nilCheck x) gd) (hg : Wanted ops a.tmps gd) (g off : Nat) (hx : a.eval x = .pointer (some ⟨g, off, none⟩)) (h : wpMx P ops Q S rest (a.put d (.pointer (some ⟨g, off, none⟩))) w) : wpMx P ops Q S ((true, k) :: rest) a w :=
  mx_step hk hg _ (fun o ho w _ => by simp [execOp, ho, hx]) h
theorem mx_field {s : TypeId} {x : Operand} {i : Nat} (hk : At ops k d (.fieldAddr s x i) gd) (hg : Wanted ops a.tmps gd) {dd : Nat} (hf : fieldOff P s i = some dd) (g off : Nat) (hx : a.eval x = .pointer (some ⟨g, off, none⟩)) (off' : Nat) (hoff : off + dd = off')
    (h : wpMx P ops Q S rest (a.put d (.pointer (some ⟨g, off', none⟩))) w) : wpMx P ops Q S ((true, k) :: rest) a w := by
  subst hoff
  exact mx_step hk hg _ (fun o ho w _ => by simp [execOp, ho, hx, run_fieldAt hf g off w]) h
theorem mx_load {t : TypeId} {x : Operand} (hk : At ops k d (.load t x) gd) (hg : Wanted ops a.tmps gd) (ht : single P t = true) (g off : Nat) (hx : a.eval x = .pointer (some ⟨g, off, none⟩)) (v : Value)
    (hc : ∀ w, S w → w.cell? ⟨g, off, none⟩ = some v) (h : wpMx P ops Q S rest (a.put d v) w) : wpMx P ops Q S ((true, k) :: rest) a w :=
  mx_step hk hg v (fun o ho w hw => by simp only [execOp, ho, hx, Sem.run_bind, run_loadAt_single ht g off v w (hc w hw)]; rfl) h
theorem mx_load_agg {t : TypeId} {x : Operand} (hk : At ops k d (.load t x) gd) (hg : Wanted ops a.tmps gd) {n : Nat} (ht : Agg P t n) (g off : Nat) (hx : a.eval x = .pointer (some ⟨g, off, none⟩)) (f : Nat → Value)
    (hc : ∀ w, S w → ∀ j, j < n → w.cell? ⟨g, off + j, none⟩ = some (f j)) (h : wpMx P ops Q S rest (a.put d (.agg (arr n f))) w) : wpMx P ops Q S ((true, k) :: rest) a w :=
  mx_step hk hg _ (fun o ho w hw => by simp only [execOp, ho, hx, Sem.run_bind, run_loadAt_agg ht w g off f (hc w hw)]; rfl) h
theorem mx_pick {c x y : Operand} (hk : At ops k d (.pick c x y) gd) (hg : Wanted ops a.tmps gd) (hc : a.eval c = .bool true) (v : Value) (hx : a.eval x = v) (h : wpMx P ops Q S rest (a.put d v) w) : wpMx P ops Q S ((true, k) :: rest) a w :=
  mx_step hk hg v (fun o ho w _ => by simp [execOp, ho, hc, hx, asBool]) h
theorem mx_eql {t t' : TypeId} {x y : Operand} (hk : At ops k d (.binOp .eql t x y t') gd) (hg : Wanted ops a.tmps gd) (u : Value) (hx : a.eval x = u) (hy : a.eval y = u) (h : wpMx P ops Q S rest (a.put d (.bool true)) w) (hr2 : ∀ w, (do eqGuard .eql t x y u u; binOp .eql t u u : Sem Value).run P w = .ok (.bool true) w) : wpMx P ops Q S ((true, k) :: rest) a w :=
  mx_step hk hg _ (fun o ho w _ => by
    have := hr2 w
    rw [Sem.run_bind] at this
    simp only [execOp, ho, hx, hy, Sem.run_bind, this]
    rfl) h
theorem mx_build {t : TypeId} {parts : Array (Nat × Operand)} (hk : At ops k d (.build t parts) gd) (hg : Wanted ops a.tmps gd) (vals : List (Nat × Value)) (hv : parts.toList.map (fun q => (q.1, a.eval q.2)) = vals)
    (v : Value) (hr : ∀ w, (Instr.build t vals.toArray).run P w = .ok v w) (h : wpMx P ops Q S rest (a.put d v) w) : wpMx P ops Q S ((true, k) :: rest) a w := by
  have e : (parts.map fun (x : Nat × Operand) => (x.1, a.eval x.2)) = vals.toArray := by
    rw [← hv]; apply Array.ext'; simp
  refine mx_step hk hg v (fun o ho w _ => ?_) h
  simp only [execOp, ho, e, Sem.run_bind, hr w]
  rfl
theorem mx_call {c : Call} (hk : At ops k d (.call c) gd) (hg : Wanted ops a.tmps gd) (f : FuncId) (args : Array Value) (hrun : ∀ o : Oper, o.op = .call c → (execOp a.eval o).run P w = .ok (.enter f args) w) {R : Value → World → Prop}
    (hc : Calls P f args w fun e w' => ∃ v, e = .returned v ∧ R v w') (hK : ∀ v w', R v w' → S w' ∧ wpMx P ops Q S rest (a.put d v) w') : wpMx P ops Q S ((false, k) :: rest) a w := by
  obtain ⟨o, h0, rfl, h2, rfl⟩ := hk
  refine ⟨o, h0, ?_⟩
  rw [if_pos (wanted_of hg)]
  unfold Oper.wp
  rw [hrun o h2, Oper.upon_enter]
  refine hc.mono fun e w'' hh => ?_
  obtain ⟨v, rfl, hR⟩ := hh
  exact hK v w'' hR
theorem mx_store_agg {t : TypeId} {x y : Operand} (hk : At ops k d (.store t x y) gd) (hgd : Wanted ops a.tmps gd) {n : Nat} (ht : Agg P t n)
    (g off m : Nat) (f v : Nat → Value) (hx : a.eval x = .pointer (some ⟨g, off, none⟩)) (hy : a.eval y = .agg (arr n f)) (hb : Blk w g m v) (hfit : off + n ≤ m) (h1 : Ones n f)
    (hK : ∀ w', Blk w' g m (put off n f v) → But g w w' → S w' ∧ wpMx P ops Q S rest (a.put d undef) w') : wpMx P ops Q S ((false, k) :: rest) a w := by
  obtain ⟨w', hr, hb', hbut⟩ := run_storeAt_agg ht w g off m f v hb hfit h1
  obtain ⟨o, h0, rfl, ho, rfl⟩ := hk
  refine ⟨o, h0, ?_⟩
  rw [if_pos (wanted_of hgd)]
  unfold Oper.wp
  simp only [execOp, ho, hx, hy, Sem.run_bind, hr]
  exact hK w' hb' hbut
end
end
end Go.Proofs.Qxb6602878aMods
