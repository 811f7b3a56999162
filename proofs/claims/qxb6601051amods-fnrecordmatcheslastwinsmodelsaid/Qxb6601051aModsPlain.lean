/- Seat b6601051aM: the plain model: the last record of each name, and sums over the last records. -/
import Derived.Test.Qxb6601051aModsPlacer
namespace Go.Proofs.Qxb6601051aMods
open Go.RowKit

/-- The last index below t whose key is k. -/
def prev (K : Nat → List UInt8) : Nat → List UInt8 → Option Nat
  | 0, _ => none
  | t + 1, k => if K t = k then some t else prev K t k
theorem prev_new (K : Nat → List UInt8) (t : Nat) (k : List UInt8) (h : K t = k) : prev K (t + 1) k = some t := by rw [prev, if_pos h]
theorem prev_old (K : Nat → List UInt8) (t : Nat) (k : List UInt8) (h : K t ≠ k) : prev K (t + 1) k = prev K t k := by rw [prev, if_neg h]
theorem prev_spec (K : Nat → List UInt8) (t : Nat) (k : List UInt8) (i : Nat) (h : prev K t k = some i) : i < t ∧ K i = k := by
  induction t with
  | zero => cases h
  | succ t ih =>
    unfold prev at h
    split at h
    · injection h with h; subst h; exact ⟨by omega, by assumption⟩
    · have := ih h; exact ⟨by omega, this.2⟩
theorem prev_ge (K : Nat → List UInt8) (t j : Nat) (h : j < t) : ∃ i, prev K t (K j) = some i ∧ j ≤ i := by
  induction t with
  | zero => omega
  | succ t ih =>
    unfold prev
    by_cases e : K t = K j
    · exact ⟨t, by rw [if_pos e], by omega⟩
    · rw [if_neg e]
      have : j ≠ t := fun h1 => e (by rw [h1])
      exact ih (by omega)

/-- The sum of the first t. -/
def sumTo : Nat → (Nat → Int) → Int
  | 0, _ => 0
  | t + 1, f => sumTo t f + f t
theorem sumTo_congr (t : Nat) (f g : Nat → Int) (h : ∀ j, j < t → f j = g j) : sumTo t f = sumTo t g := by
  induction t with
  | zero => rfl
  | succ t ih => unfold sumTo; rw [ih (fun j hj => h j (by omega)), h t (by omega)]
theorem sumTo_sub (t : Nat) (f g : Nat → Int) : sumTo t (fun j => f j - g j) = sumTo t f - sumTo t g := by
  induction t with
  | zero => rfl
  | succ t ih => unfold sumTo; rw [ih]; show _ + (f t - g t) = _; omega
theorem sumTo_zero (t : Nat) (f : Nat → Int) (h : ∀ j, j < t → f j = 0) : sumTo t f = 0 := by
  induction t with
  | zero => rfl
  | succ t ih => unfold sumTo; rw [ih (fun j hj => h j (by omega)), h t (by omega)]; rfl
theorem sumTo_one (t i : Nat) (f : Nat → Int) (hi : i < t) (h : ∀ j, j < t → j ≠ i → f j = 0) : sumTo t f = f i := by
  induction t with
  | zero => omega
  | succ t ih =>
    unfold sumTo
    by_cases e : i = t
    · subst e; rw [sumTo_zero i f (fun j hj => h j (by omega) (by omega))]; omega
    · rw [ih (by omega) (fun j hj hne => h j (by omega) hne), h t (by omega) (by omega)]; omega
theorem sumTo_bd (t : Nat) (f : Nat → Int) (b : Int) (h : ∀ j, j < t → 0 ≤ f j ∧ f j ≤ b) : 0 ≤ sumTo t f ∧ sumTo t f ≤ t * b := by
  induction t with
  | zero => simp [sumTo]
  | succ t ih =>
    have h1 := ih (fun j hj => h j (by omega))
    have h2 := h t (by omega)
    have e : ((t + 1 : Nat) : Int) * b = (t : Int) * b + b := by rw [Int.natCast_add]; rw [Int.add_mul]; omega
    rw [e]
    unfold sumTo
    omega

/-- g at i, where i is the last of its key below n. -/
def atLast (K : Nat → List UInt8) (n : Nat) (g : Nat → Int) (i : Nat) : Int := if prev K n (K i) = some i then g i else 0
/-- The sum of g over the last records among the first t. -/
def tot (K : Nat → List UInt8) (t : Nat) (g : Nat → Int) : Int := sumTo t (atLast K t g)
/-- g of the last record of k. -/
def oldOf (K : Nat → List UInt8) (t : Nat) (g : Nat → Int) (k : List UInt8) : Int := match prev K t k with | some i => g i | none => 0

theorem tot_step (K : Nat → List UInt8) (t : Nat) (g : Nat → Int) : tot K (t + 1) g = tot K t g - oldOf K t g (K t) + g t := by
  have e1 : tot K (t + 1) g = sumTo t (atLast K (t + 1) g) + g t := by
    show sumTo t (atLast K (t + 1) g) + atLast K (t + 1) g t = _
    simp [atLast, prev]
  have e2 : sumTo t (atLast K (t + 1) g) = sumTo t (fun j => atLast K t g j - if K j = K t then atLast K t g j else 0) := by
    refine sumTo_congr t _ _ (fun j hj => ?_)
    unfold atLast
    by_cases e : K j = K t
    · rw [prev_new K t (K j) e.symm, if_pos e, if_neg (by simp; omega)]; omega
    · rw [prev_old K t (K j) (fun h => e h.symm), if_neg e]; omega
  have e3 : sumTo t (fun j => if K j = K t then atLast K t g j else 0) = oldOf K t g (K t) := by
    unfold oldOf
    cases hp : prev K t (K t) with
    | none =>
      refine sumTo_zero t _ (fun j hj => ?_)
      by_cases e : K j = K t
      · rw [if_pos e]; unfold atLast; rw [e, hp, if_neg (by simp)]
      · rw [if_neg e]
    | some i =>
      obtain ⟨hi, hk⟩ := prev_spec K t _ i hp
      rw [sumTo_one t i _ hi (fun j hj hne => ?_)]
      · simp only [hk, if_true, atLast, hp]
      · by_cases e : K j = K t
        · rw [if_pos e]; unfold atLast; rw [e, hp, if_neg (by simp; omega)]
        · rw [if_neg e]
  rw [e1, e2, sumTo_sub, e3]
  show sumTo t (atLast K t g) - _ + _ = _
  rfl
theorem tot_bd (K : Nat → List UInt8) (t : Nat) (g : Nat → Int) (b : Int) (hb : 0 ≤ b) (h : ∀ j, j < t → 0 ≤ g j ∧ g j ≤ b) : 0 ≤ tot K t g ∧ tot K t g ≤ t * b := by
  refine sumTo_bd t _ b (fun j hj => ?_)
  unfold atLast
  split
  · exact h j hj
  · exact ⟨by omega, hb⟩
/-- The sum over the last records from p on. -/
def suf (K : Nat → List UInt8) (n p : Nat) (g : Nat → Int) : Int := tot K n g - sumTo p (atLast K n g)
theorem suf_end (K : Nat → List UInt8) (n : Nat) (g : Nat → Int) : suf K n n g = 0 := by unfold suf tot; omega
theorem suf_start (K : Nat → List UInt8) (n : Nat) (g : Nat → Int) : suf K n 0 g = tot K n g := by unfold suf sumTo; omega
theorem suf_step (K : Nat → List UInt8) (n p : Nat) (g : Nat → Int) : suf K n p g = suf K n (p + 1) g + atLast K n g p := by unfold suf; rw [show sumTo (p + 1) (atLast K n g) = sumTo p (atLast K n g) + atLast K n g p from rfl]; omega
theorem sumTo_le (f : Nat → Int) (p n : Nat) (h : ∀ j, j < n → 0 ≤ f j) (hp : p ≤ n) : sumTo p f ≤ sumTo n f := by
  induction n with
  | zero => obtain rfl : p = 0 := by omega
            exact Int.le_refl _
  | succ n ih =>
    by_cases e : p = n + 1
    · subst e; exact Int.le_refl _
    · have := ih (fun j hj => h j (by omega)) (by omega); have := h n (by omega)
      show _ ≤ sumTo n f + f n
      omega
theorem suf_bd (K : Nat → List UInt8) (n p : Nat) (g : Nat → Int) (b : Int) (hp : p ≤ n) (hb : 0 ≤ b) (h : ∀ j, j < n → 0 ≤ g j ∧ g j ≤ b) : 0 ≤ suf K n p g ∧ suf K n p g ≤ n * b := by
  have h1 := tot_bd K n g b hb h
  have h0 : ∀ j, j < n → 0 ≤ atLast K n g j ∧ atLast K n g j ≤ b := fun j hj => by
    unfold atLast
    split
    · exact h j hj
    · exact ⟨by omega, hb⟩
  have h2 := sumTo_bd p (atLast K n g) b (fun j hj => h0 j (by omega))
  have h3 := sumTo_le (atLast K n g) p n (fun j hj => (h0 j hj).1) hp
  unfold suf
  unfold tot at *
  omega

/-- Whether the keys from p on hold k. -/
def doneF (K : Nat → List UInt8) (n p : Nat) (k : List UInt8) : Option Value := match prev K n k with | some i => if p ≤ i then some (.bool true) else none | none => none
theorem doneF_end (K : Nat → List UInt8) (n : Nat) (k : List UInt8) : none = doneF K n n k := by
  unfold doneF
  cases hp : prev K n k with
  | none => rfl
  | some i => have := (prev_spec K n k i hp).1; simp only [if_neg (show ¬ n ≤ i by omega)]
theorem doneF_look (K : Nat → List UInt8) (n p : Nat) (hp : p < n) : (doneF K n (p + 1) (K p)).getD (.bool false) = .bool (!decide (prev K n (K p) = some p)) := by
  obtain ⟨i, hi, hle⟩ := prev_ge K n p hp
  unfold doneF
  rw [hi]
  by_cases e : i = p
  · subst e; simp only [if_neg (show ¬ i + 1 ≤ i by omega)]; simp
  · have : p + 1 ≤ i := by omega
    simp [e, this]
theorem doneF_new (K : Nat → List UInt8) (n p : Nat) (h : prev K n (K p) = some p) (k : List UInt8) : upd (doneF K n (p + 1)) (K p) (some (.bool true)) k = doneF K n p k := by
  unfold upd
  by_cases e : k = K p
  · subst e; rw [if_pos rfl]; unfold doneF; rw [h]; simp
  · rw [if_neg e]
    unfold doneF
    cases hp : prev K n k with
    | none => rfl
    | some i =>
      have hk := (prev_spec K n k i hp).2
      have hne : i ≠ p := fun h1 => e (by rw [← hk, h1])
      by_cases h1 : p ≤ i
      · simp only [if_pos h1, if_pos (show p + 1 ≤ i by omega)]
      · simp only [if_neg h1, if_neg (show ¬ p + 1 ≤ i by omega)]
theorem doneF_old (K : Nat → List UInt8) (n p : Nat) (h : prev K n (K p) ≠ some p) (k : List UInt8) : doneF K n (p + 1) k = doneF K n p k := by
  unfold doneF
  cases hp : prev K n k with
  | none => rfl
  | some i =>
    have hk := (prev_spec K n k i hp).2
    have hne : i ≠ p := by
      intro h1
      subst h1
      rw [hk] at h
      exact h hp
    by_cases h1 : p ≤ i
    · simp only [if_pos h1, if_pos (show p + 1 ≤ i by omega)]
    · simp only [if_neg h1, if_neg (show ¬ p + 1 ≤ i by omega)]
/-- Not yet there. -/
theorem doneF_none (K : Nat → List UInt8) (n p : Nat) (h : prev K n (K p) = some p) : (doneF K n (p + 1) (K p)).isSome = false := by
  unfold doneF
  rw [h]
  simp

/-- All zones of the first t lists, the newest first. -/
def allH (el : Nat → Nat → ByteArray) (ln : Nat → Nat) : Nat → List (List UInt8)
  | 0 => []
  | t + 1 => hist (el t) (ln t) (allH el ln t)
theorem mem_allH (el : Nat → Nat → ByteArray) (ln : Nat → Nat) (t : Nat) (z : List UInt8) : z ∈ allH el ln t ↔ ∃ i, i < t ∧ ∃ j, j < ln i ∧ key (el i j) = z := by
  induction t with
  | zero => simp [allH]
  | succ t ih =>
    unfold allH
    rw [mem_hist, ih]
    constructor
    · rintro (⟨i, hi, h⟩ | h)
      · exact ⟨i, by omega, h⟩
      · exact ⟨t, by omega, h⟩
    · rintro ⟨i, hi, h⟩
      by_cases e : i = t
      · subst e; exact .inr h
      · exact .inl ⟨i, by omega, h⟩
theorem len_allH (el : Nat → Nat → ByteArray) (ln : Nat → Nat) (t n : Nat) (ht : t ≤ n) (h : ∀ i, i < n → ln i ≤ 1048576) : (allH el ln t).length ≤ t * 1048576 := by
  induction t with
  | zero => simp [allH]
  | succ t ih =>
    unfold allH
    rw [len_hist]
    have := ih (by omega)
    have := h t (by omega)
    omega

/-- How often z stands in list i. -/
def occL (el : Nat → Nat → ByteArray) (ln : Nat → Nat) (z : List UInt8) (i : Nat) : Int := occ (el i) (ln i) z
/-- Whether list i has zones. -/
def anyL (ln : Nat → Nat) (i : Nat) : Int := if 0 < ln i then 1 else 0
theorem tot_zero (K : Nat → List UInt8) (el : Nat → Nat → ByteArray) (ln : Nat → Nat) (t : Nat) (z : List UInt8) (h : z ∉ allH el ln t) : tot K t (occL el ln z) = 0 := by
  refine sumTo_zero t _ (fun j hj => ?_)
  unfold atLast
  split
  · exact occ_zero _ _ _ (fun i hi e => h ((mem_allH el ln t z).2 ⟨j, hj, i, hi, e⟩))
  · rfl

/-- The table of zones: each name's last list, where it has zones. -/
def usedF (K : Nat → List UInt8) (za : Nat → Option Addr) (ln : Nat → Nat) (t : Nat) (k : List UInt8) : Option Value := match prev K t k with | some i => (if 0 < ln i then some (.slice (za i) (ln i) (ln i)) else none) | none => none
theorem usedF_step (K : Nat → List UInt8) (za : Nat → Option Addr) (ln : Nat → Nat) (t : Nat) (k : List UInt8) : nextU (usedF K za ln t) (K t) (za t) (ln t) k = usedF K za ln (t + 1) k := by
  unfold nextU upd usedF
  by_cases e : k = K t
  · rw [if_pos e, prev_new K t k e.symm]
  · rw [if_neg e, prev_old K t k (fun h => e h.symm)]
theorem usedF_congr (K : Nat → List UInt8) (za za' : Nat → Option Addr) (ln : Nat → Nat) (t : Nat) (h : ∀ i, i < t → za i = za' i) (k : List UInt8) : usedF K za ln t k = usedF K za' ln t k := by
  unfold usedF
  cases hp : prev K t k with
  | none => rfl
  | some i => simp only [h i (prev_spec K t k i hp).1]
theorem usedN_step (K : Nat → List UInt8) (za : Nat → Option Addr) (ln : Nat → Nat) (t nu : Nat) (h : (nu : Int) = tot K t (anyL ln)) : ((nextN nu (ln t) (usedF K za ln t (K t)).isSome : Nat) : Int) = tot K (t + 1) (anyL ln) := by
  have h1 := tot_step K t (anyL ln)
  have hb := (tot_bd K (t + 1) (anyL ln) 1 (by omega) (fun j _ => by unfold anyL; split <;> omega)).1
  rw [h1] at hb ⊢
  rw [← h] at hb ⊢
  have ho : oldOf K t (anyL ln) (K t) = if (usedF K za ln t (K t)).isSome then 1 else 0 := by
    unfold oldOf usedF anyL
    cases hp : prev K t (K t) with
    | none => simp
    | some i => by_cases h0 : 0 < ln i <;> simp [h0]
  rw [ho] at hb ⊢
  unfold nextN anyL at *
  by_cases h0 : 0 < ln t <;> by_cases h2 : (usedF K za ln t (K t)).isSome = true <;> simp only [h0, h2, if_true, if_false] at hb ⊢ <;> simp at hb ⊢ <;> omega
/-- The counts behind a record, told by the old list. -/
theorem cnt_step (K : Nat → List UInt8) (el : Nat → Nat → ByteArray) (ln : Nat → Nat) (t : Nat) (z : List UInt8) (oe : Nat → ByteArray) (ol : Nat) (ho : ∀ z, occ oe ol z = oldOf K t (occL el ln z) (K t)) :
    tot K t (occL el ln z) - occ oe ol z + occ (el t) (ln t) z = tot K (t + 1) (occL el ln z) := by
  rw [tot_step, ho]; rfl

/-- The mentioned zones. -/
def menF (h : List (List UInt8)) (z : List UInt8) : Option Value := if z ∈ h then some (.bool true) else none
theorem menF_look (h : List (List UInt8)) (z : List UInt8) : (menF h z).getD (.bool false) = .bool (decide (z ∈ h)) := by
  unfold menF; split <;> simp [*]
theorem menF_isSome (h : List (List UInt8)) (z : List UInt8) : (menF h z).isSome = decide (z ∈ h) := by
  unfold menF; split <;> simp [*]
theorem menF_upd (h : List (List UInt8)) (k z : List UInt8) : upd (menF h) k (some (.bool true)) z = menF (k :: h) z := by
  unfold upd menF
  by_cases e : z = k
  · subst e; simp
  · rw [if_neg e]; simp [e]
theorem menF_in (h : List (List UInt8)) (k z : List UInt8) (hk : k ∈ h) : menF h z = menF (k :: h) z := by
  unfold menF
  by_cases e : z = k
  · subst e; simp [hk]
  · simp [e]
theorem ndr_in (h : List (List UInt8)) (k : List UInt8) (hk : k ∈ h) : ndr (k :: h) = ndr h := by rw [ndr_step]; simp [hk]
theorem ndr_new (h : List (List UInt8)) (k : List UInt8) (hk : k ∉ h) : ndr (k :: h) = ndr h + 1 := by rw [ndr_step]; simp [hk]
end Go.Proofs.Qxb6601051aMods
