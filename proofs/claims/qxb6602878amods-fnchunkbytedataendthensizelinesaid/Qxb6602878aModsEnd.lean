/- Seat b6602878aM: plain: the run from the chunk's end, and where the law's loop stops. -/
import Derived.Test.Qxb6602878aModsSize
import Derived.Test.Qxb6602878aModsByte
namespace Go.Proofs.Qxb6602878aMods

/-- The states behind the first n bytes, from s. -/
def rd (s : Fs) (p : Nat → Int) : Nat → Fs
  | 0 => s
  | n + 1 => step (rd s p n) (p n)
/-- Where the loop ends. -/
structure Ended (s : Fs) (p : Nat → Int) (L n : Nat) : Prop where
  le : n ≤ L
  before : ∀ i, i < n → ¬ Stop (rd s p i)
  at_ : n = L ∨ Stop (rd s p n)
/-- A state that goes on. -/
structure Fine (s : Fs) : Prop where
  st : s.st = 3 ∨ s.st = 4 ∨ s.st = 5 ∨ s.st = 6 ∨ s.st = 8 ∨ s.st = 9
  size : s.st = 3 → ∃ h : Nat, s.dig = h ∧ h ≤ 16 ∧ 0 ≤ s.left ∧ s.left < ((16 ^ h : Nat) : Int)
theorem Fine.good {s : Fs} (h : Fine s) : Good s := by
  refine ⟨h.st, fun h3 => ?_⟩
  obtain ⟨n, h1, h2, h4, h5⟩ := h.size h3
  refine ⟨by omega, by omega, h4, fun hd => ?_⟩
  have h6 : 16 ^ n ≤ 16 ^ 15 := Nat.pow_le_pow_right (by omega) (by omega)
  have h7 : (16 : Nat) ^ 15 = 1152921504606846976 := by decide
  omega
theorem Fine.next {s : Fs} (h : Fine s) (b : Int) (hn : ¬ Stop (step s b)) : Fine (step s b) := by
  obtain ⟨amb, st, left, dig⟩ := s
  have ha : (step ⟨amb, st, left, dig⟩ b).amb = false := by
    cases e : (step ⟨amb, st, left, dig⟩ b).amb with
    | false => rfl
    | true => exact absurd (.inl e) hn
  have h7 : (step ⟨amb, st, left, dig⟩ b).st ≠ 7 := fun e => hn (.inr (.inl e))
  have h10 : (step ⟨amb, st, left, dig⟩ b).st ≠ 10 := fun e => hn (.inr (.inr e))
  rcases h.st with e | e | e | e | e | e
  · dsimp only at e
    subst e
    obtain ⟨n, d1, d2, d3, d4⟩ := h.size rfl
    dsimp only at d1 d3 d4
    have hs : step ⟨amb, 3, left, dig⟩ b = stepSize ⟨amb, 3, left, dig⟩ b := rfl
    rw [hs] at ha ⊢
    unfold stepSize at ha ⊢
    cases hx : hexv b with
    | some d =>
      have hd := hexv_bd hx
      simp only [hx] at ha ⊢
      by_cases h16 : dig < 16
      · simp only [h16, if_true] at ha ⊢
        refine ⟨.inl rfl, fun _ => ⟨n + 1, ?_, ?_, ?_, ?_⟩⟩
        · show dig + 1 = _; omega
        · omega
        · show 0 ≤ left * 16 + d; omega
        · show left * 16 + d < _
          have e16 : 16 ^ (n + 1) = 16 ^ n * 16 := Nat.pow_succ ..
          rw [e16]; omega
      · simp only [h16, if_false] at ha
        cases ha
    | none =>
      simp only [hx] at ha ⊢
      by_cases h0 : dig = 0
      · simp only [h0, if_true] at ha; cases ha
      · simp only [h0, if_false] at ha ⊢
        by_cases q1 : b = 59
        · simp only [q1, if_true]; exact ⟨by simp, fun h => absurd (show (5 : Int) = 3 from h) (by decide)⟩
        · simp only [q1, if_false] at ha ⊢
          by_cases q2 : b = 32 ∨ b = 9
          · simp only [q2, if_true]; exact ⟨by simp, fun h => absurd (show (4 : Int) = 3 from h) (by decide)⟩
          · simp only [q2, if_false] at ha ⊢
            by_cases q3 : b = 13
            · simp only [q3, if_true]; exact ⟨by simp, fun h => absurd (show (6 : Int) = 3 from h) (by decide)⟩
            · simp only [q3, if_false] at ha; cases ha
  · dsimp only at e
    subst e
    have hs : step ⟨amb, 4, left, dig⟩ b = (if b = 32 ∨ b = 9 then ⟨amb, 4, left, dig⟩ else if b = 13 then ⟨amb, 6, left, dig⟩ else ⟨true, 4, left, dig⟩) := rfl
    rw [hs] at ha ⊢
    by_cases q2 : b = 32 ∨ b = 9
    · simp only [q2, if_true]; exact ⟨by simp, fun h => absurd (show (4 : Int) = 3 from h) (by decide)⟩
    · simp only [q2, if_false] at ha ⊢
      by_cases q3 : b = 13
      · simp only [q3, if_true]; exact ⟨by simp, fun h => absurd (show (6 : Int) = 3 from h) (by decide)⟩
      · simp only [q3, if_false] at ha; cases ha
  · dsimp only at e
    subst e
    have hs : step ⟨amb, 5, left, dig⟩ b = (if b = 13 then ⟨amb, 6, left, dig⟩ else if b = 10 then ⟨true, 5, left, dig⟩ else ⟨amb, 5, left, dig⟩) := rfl
    rw [hs] at ha ⊢
    by_cases q3 : b = 13
    · simp only [q3, if_true]; exact ⟨by simp, fun h => absurd (show (6 : Int) = 3 from h) (by decide)⟩
    · simp only [q3, if_false] at ha ⊢
      by_cases q4 : b = 10
      · simp only [q4, if_true] at ha; cases ha
      · simp only [q4, if_false]; exact ⟨by simp, fun h => absurd (show (5 : Int) = 3 from h) (by decide)⟩
  · dsimp only at e
    subst e
    have hs : step ⟨amb, 6, left, dig⟩ b = (if b = 10 then (if left = 0 then ⟨amb, 10, left, dig⟩ else ⟨amb, 7, left, dig⟩) else ⟨true, 6, left, dig⟩) := rfl
    rw [hs] at ha h7 h10
    by_cases q4 : b = 10
    · simp only [q4, if_true] at h7 h10
      by_cases q5 : left = 0
      · simp only [q5, if_true] at h10; exact absurd rfl h10
      · simp only [q5, if_false] at h7; exact absurd rfl h7
    · simp only [q4, if_false] at ha; cases ha
  · dsimp only at e
    subst e
    exact ⟨.inr (.inr (.inr (.inr (.inr rfl)))), fun h => absurd (show (9 : Int) = 3 from h) (by decide)⟩
  · dsimp only at e
    subst e
    exact ⟨.inl rfl, fun _ => ⟨0, rfl, by omega, Int.le_refl _, by show (0 : Int) < _; simp⟩⟩

theorem fine_rd {s : Fs} {p : Nat → Int} (h0 : Fine s) : ∀ n, (∀ i, i ≤ n → ¬ Stop (rd s p i)) → Fine (rd s p n)
  | 0, _ => h0
  | n + 1, h => (fine_rd h0 n (fun i hi => h i (by omega))).next (p n) (h (n + 1) (Nat.le_refl _))

/-- The chunk's end. -/
def s8 (left dig : Int) : Fs := ⟨false, 8, left, dig⟩
theorem fine_s8 (left dig : Int) : Fine (s8 left dig) := ⟨.inr (.inr (.inr (.inr (.inl rfl)))), fun h => absurd (show (8 : Int) = 3 from h) (by decide)⟩
theorem go_s8 (left dig : Int) : ¬ Stop (s8 left dig) := by
  rintro (h | h | h)
  · cases h
  · exact absurd (show (8 : Int) = 7 from h) (by decide)
  · exact absurd (show (8 : Int) = 10 from h) (by decide)
theorem rd_1 (left dig : Int) (p : Nat → Int) : rd (s8 left dig) p 1 = ⟨!decide (p 0 = 13), 9, left, dig⟩ := rfl
theorem rd_2 (left dig : Int) (p : Nat → Int) : rd (s8 left dig) p 2 = ⟨!decide (p 1 = 10), 3, 0, 0⟩ := rfl
theorem rd_run (left dig : Int) (p : Nat → Int) (h : p 1 = 10) : ∀ n, rd (s8 left dig) p (n + 2) = run (fun i => p (i + 2)) n
  | 0 => by rw [rd_2, h]; rfl
  | n + 1 => by show step (rd (s8 left dig) p (n + 2)) (p (n + 2)) = _; rw [rd_run left dig p h n]; rfl
theorem Ended.uniq {s : Fs} {p : Nat → Int} {L n m : Nat} (h : Ended s p L n) (k : Ended s p L m) : n = m := by
  rcases Nat.lt_trichotomy n m with h1 | h1 | h1
  · rcases h.at_ with h2 | h2
    · have := k.le; omega
    · exact absurd h2 (k.before n h1)
  · exact h1
  · rcases k.at_ with h2 | h2
    · have := h.le; omega
    · exact absurd h2 (h.before m h1)
theorem ended_0 (left dig : Int) (p : Nat → Int) : Ended (s8 left dig) p 0 0 := ⟨Nat.le_refl _, fun i hi => by omega, .inl rfl⟩
theorem ended_1 (left dig : Int) (p : Nat → Int) (L : Nat) (hL : 0 < L) (h : p 0 ≠ 13 ∨ L = 1) : Ended (s8 left dig) p L 1 := by
  refine ⟨hL, fun i hi => ?_, ?_⟩
  · obtain rfl : i = 0 := by omega
    exact go_s8 left dig
  · rcases h with h | h
    · right; left; rw [rd_1]; simp [h]
    · left; omega
theorem before_2 (left dig : Int) (p : Nat → Int) (h : p 0 = 13) (i : Nat) (hi : i < 2) : ¬ Stop (rd (s8 left dig) p i) := by
  by_cases e : i = 0
  · subst e; exact go_s8 left dig
  · obtain rfl : i = 1 := by omega
    rw [rd_1, h]
    rintro (h | h | h)
    · simp at h
    · exact absurd (show (9 : Int) = 7 from h) (by decide)
    · exact absurd (show (9 : Int) = 10 from h) (by decide)
theorem ended_2 (left dig : Int) (p : Nat → Int) (L : Nat) (hL : 1 < L) (h : p 0 = 13) (h1 : p 1 ≠ 10) : Ended (s8 left dig) p L 2 :=
  ⟨hL, before_2 left dig p h, .inr (.inl (by rw [rd_2]; simp [h1]))⟩
theorem ended_run (left dig : Int) (p : Nat → Int) (L n : Nat) (hL : n + 2 ≤ L) (h : p 0 = 13) (h1 : p 1 = 10) (hb : ∀ i, i < n → ¬ Stop (run (fun i => p (i + 2)) i)) (ha : n + 2 = L ∨ Stop (run (fun i => p (i + 2)) n)) : Ended (s8 left dig) p L (n + 2) := by
  refine ⟨hL, fun i hi => ?_, ?_⟩
  · by_cases e : i < 2
    · exact before_2 left dig p h i e
    · have := hb (i - 2) (by omega)
      rw [← rd_run left dig p h1 (i - 2)] at this
      rwa [show i - 2 + 2 = i by omega] at this
  · rw [rd_run left dig p h1 n]; exact ha
end Go.Proofs.Qxb6602878aMods
