/- Seat b6602878aM: the lexical order of a long region, by a check that is linear. -/
import Derived.Test.Qxb6602878aModsIn
import Derived.Deep.Quiet
namespace Go.Proofs.Qxb6602878aMods
open Go.RowKit

section
variable {md : Region.Mode} {ops : Array Oper}
def edgeTo (md : Region.Mode) (o : Oper) (i : Nat) : Bool := o.after.toList.any (fun e => Region.binds md e && e.on == i)
def looks (base : Nat) (o : Oper) : List Tmp := (o.op.operands.toList.filterMap fun | .tmp t => some t | _ => none) ++ (match o.guard with | some (g, _) => [base + g] | none => [])
def linOp (md : Region.Mode) (base j : Nat) (o : Oper) : Bool :=
  o.after.toList.all (fun e => !Region.binds md e || decide (e.on < j)) &&
  (looks base o).all (fun t => decide (t < base) || (decide (t < base + j) && edgeTo md o (t - base))) &&
  (match o.guard with | some (g, _) => decide (g < j) | none => true)
def linB (md : Region.Mode) (base : Nat) : Nat → List Oper → Bool
  | _, [] => true
  | j, [o] => linOp md base j o && (o.dst == some (base + j) || (List.range j).all (edgeTo md o))
  | j, o :: p :: l => linOp md base j o && (o.dst == some (base + j)) && linB md base (j + 1) (p :: l)

theorem linB_at {base : Nat} : ∀ (l : List Oper) (j : Nat), linB md base j l = true → ∀ i o, l[i]? = some o → linOp md base (j + i) o = true ∧ (i + 1 < l.length → o.dst = some (base + (j + i))) ∧ (o.dst = some (base + (j + i)) ∨ ∀ k, k < j + i → edgeTo md o k = true)
  | [], _, _, i, o, hi => by simp at hi
  | [p], j, h, i, o, hi => by
    have hi0 : i = 0 := by
      rcases Nat.lt_or_ge i 1 with h | h
      · omega
      · rw [List.getElem?_eq_none (by simpa using h)] at hi; cases hi
    subst hi0
    simp at hi
    subst hi
    simp only [linB, Bool.and_eq_true, Bool.or_eq_true, beq_iff_eq, List.all_eq_true, List.mem_range] at h
    exact ⟨h.1, fun h1 => by simp at h1, h.2.imp id (fun h2 k hk => h2 k (by omega))⟩
  | p :: q :: l, j, h, i, o, hi => by
    simp only [linB, Bool.and_eq_true, beq_iff_eq] at h
    cases i with
    | zero =>
      simp at hi
      subst hi
      exact ⟨h.1.1, fun _ => h.1.2, .inl h.1.2⟩
    | succ i =>
      have := linB_at (q :: l) (j + 1) h.2 i o (by simpa using hi)
      rw [show j + (i + 1) = j + 1 + i by omega]
      exact ⟨this.1, fun h1 => this.2.1 (by simp at h1 ⊢; omega), this.2.2⟩

theorem looks_eq {base : Nat} {l : List Oper} (h : linB md base 0 l = true) {j : Nat} {o : Oper} (hj : l[j]? = some o) : o.looksAt l.toArray = looks base o := by
  have hl := (linB_at l 0 h j o hj).1
  simp only [linOp, Bool.and_eq_true] at hl
  unfold Oper.looksAt looks
  congr 1
  cases hg : o.guard with
  | none => rfl
  | some q =>
    obtain ⟨g, b⟩ := q
    rw [hg] at hl
    have hgj : g < 0 + j := by simpa using hl.2
    have hjl : j < l.length := (List.getElem?_eq_some_iff.1 hj).1
    have hgl : g < l.length := by omega
    have := (linB_at l 0 h g l[g] (List.getElem?_eq_getElem hgl)).2.1 (by omega)
    simp [List.getElem?_eq_getElem hgl, this]

theorem pair_ok {base : Nat} {l : List Oper} (h : linB md base 0 l = true) {i j : Nat} {oi oj : Oper} (hi : l[i]? = some oi) (hj : l[j]? = some oj) (hij : i < j) : edgeTo md oj i = true ∨ oi.apart l.toArray oj = true := by
  have Hi := linB_at l 0 h i oi hi
  have Hj := linB_at l 0 h j oj hj
  have hjl : j < l.length := (List.getElem?_eq_some_iff.1 hj).1
  by_cases he : edgeTo md oj i = true
  · exact .inl he
  right
  have hdi := Hi.2.1 (by omega)
  have hdj : oj.dst = some (base + (0 + j)) := Hj.2.2.resolve_right (fun hk => he (hk i (by omega)))
  unfold Oper.apart
  rw [hdi, hdj, looks_eq h hi, looks_eq h hj]
  have li := Hi.1
  have lj := Hj.1
  simp only [linOp, Bool.and_eq_true, List.all_eq_true, Bool.or_eq_true, decide_eq_true_eq] at li lj
  have n1 : base + (0 + i) ∉ looks base oj := fun hm => by
    rcases lj.1.2 _ hm with h1 | h1
    · have h2 : (base + (0 + i) : Nat) < base := h1
      omega
    · exact he (by have := h1.2; rwa [show base + (0 + i) - base = i by omega] at this)
  have n2 : base + (0 + j) ∉ looks base oi := fun hm => by
    rcases li.1.2 _ hm with h1 | h1
    · have h2 : (base + (0 + j) : Nat) < base := h1
      omega
    · have h2 : (base + (0 + j) : Nat) < base + (0 + i) := h1.1
      omega
  have n3 : (base + (0 + j) : Nat) ≠ (base + (0 + i) : Nat) := by omega
  have c1 : (looks base oj).contains (base + (0 + i)) = false := by simpa using n1
  have c2 : (looks base oi).contains (base + (0 + j)) = false := by simpa using n2
  have c3 : (some (base + (0 + j)) != some (base + (0 + i)) : Bool) = true := by simpa using n3
  simp only [c1, c2, Bool.not_false, Bool.true_and, Bool.and_true]
  exact c3

/-- The first k have come up. -/
def First (n k : Nat) (listed : Array Bool) : Prop := listed.size = n ∧ ∀ j, j < n → listed[j]? = some (decide (j < k))
theorem First.start (n : Nat) : First n 0 (Array.replicate n false) := ⟨by simp, fun j hj => by simp [hj]⟩
theorem First.next {n k : Nat} {listed : Array Bool} (h : First n k listed) (hk : k < n) : First n (k + 1) (listed.setIfInBounds k true) := by
  refine ⟨by simp [h.1], fun j hj => ?_⟩
  rw [Array.getElem?_setIfInBounds]
  by_cases e : k = j
  · subst e; simp [h.1, hk]
  · rw [if_neg e, h.2 j hj]
    congr 1
    simp only [decide_eq_decide]
    omega
theorem First.getD {n k : Nat} {listed : Array Bool} (h : First n k listed) {j : Nat} (hj : j < n) (d : Bool) : listed.getD j d = decide (j < k) := by
  rw [Array.getD_eq_getD_getElem?, h.2 j hj]; rfl

theorem lexFrom_lin {base : Nat} {l : List Oper} (h : linB md base 0 l = true) : ∀ (f k : Nat) (listed : Array Bool), k + f = l.length → First l.length k listed → Region.lexFrom md l.toArray f k listed = true
  | 0, k, listed, hk, hf => by
    simp only [Region.lexFrom, Region.ready, List.isEmpty_iff, List.filter_eq_nil_iff, List.mem_range]
    intro i hi
    have hi' : i < l.length := by simpa using hi
    rw [hf.getD hi' true]
    simp
    omega
  | f + 1, k, listed, hk, hf => by
    have hkl : k < l.length := by omega
    have hko : l[k]? = some l[k] := List.getElem?_eq_getElem hkl
    have Hk := linB_at l 0 h k l[k] hko
    have lk := Hk.1
    simp only [linOp, Bool.and_eq_true, List.all_eq_true, Bool.or_eq_true, decide_eq_true_eq] at lk
    simp only [Region.lexFrom, Bool.and_eq_true]
    refine ⟨⟨?_, ?_⟩, lexFrom_lin h f (k + 1) _ (by omega) (hf.next hkl)⟩
    · have hmem : k ∈ Region.ready md l.toArray listed := by
        simp only [Region.ready, List.mem_filter, List.mem_range]
        refine ⟨by simpa using hkl, ?_⟩
        rw [hf.getD hkl true]
        have : l.toArray[k]? = some l[k] := by rw [List.getElem?_toArray]; exact hko
        rw [this]
        simp only [Option.map_some, Option.getD_some, Bool.and_eq_true]
        refine ⟨by simp, ?_⟩
        rw [Array.all_eq_true_iff_forall_mem]
        intro e he
        rcases lk.1.1 e (by simpa using he) with h1 | h1
        · simp at h1; simp [h1]
        · have hlt : e.on < l.length := by omega
          rw [hf.getD hlt false]
          simp
          right
          omega
      simpa using hmem
    · unfold Region.free
      have : l.toArray[k]? = some l[k] := by rw [List.getElem?_toArray]; exact hko
      rw [this]
      simp only [List.all_eq_true, List.mem_range]
      intro j hj
      have hjl : j < l.length := by simpa using hj
      by_cases e : j = k
      · simp [e]
      · rw [hf.getD hjl true]
        by_cases hlt : j < k
        · simp [hlt]
        · have hjo : l[j]? = some l[j] := List.getElem?_eq_getElem hjl
          have : l.toArray[j]? = some l[j] := by rw [List.getElem?_toArray]; exact hjo
          rw [this]
          rcases pair_ok h hko hjo (by omega) with h1 | h1
          · have h2 : (l[j].after.any fun e => Region.binds md e && e.on == k) = true := by
              unfold edgeTo at h1
              simpa using h1
            simp [h2]
          · simp [h1]
theorem lexB_lin {base : Nat} {l : List Oper} (hs : Region.noSelect l.toArray = true) (h : linB md base 0 l = true) : Region.lexB md l.toArray = true := by
  unfold Region.lexB
  rw [hs, Bool.true_and]
  have := lexFrom_lin h l.length 0 (Array.replicate l.length false) (by omega) (First.start _)
  simpa using this
end
end Go.Proofs.Qxb6602878aMods
