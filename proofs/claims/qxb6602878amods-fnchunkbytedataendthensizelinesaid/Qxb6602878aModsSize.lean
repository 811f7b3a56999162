/- Seat b6602878aM: zzSizeLinePB1, told by the run of the framing's steps. -/
import Derived.Test.Qxb6602878aModsHex
namespace Go.Proofs.Qxb6602878aMods
open Go.RowKit

/-- The states behind the first n bytes, from the size line's begin. -/
def run (p : Nat → Int) : Nat → Fs
  | 0 => ⟨false, 3, 0, 0⟩
  | n + 1 => step (run p n) (p n)
def Stop (s : Fs) : Prop := s.amb = true ∨ s.st = 7 ∨ s.st = 10
/-- No stop among the states up to n (n itself among them). -/
def Going (p : Nat → Int) (n : Nat) : Prop := ∀ i, i ≤ n → ¬ Stop (run p i)
theorem Going.next {p : Nat → Int} {n : Nat} (h : Going p n) {s : Fs} (hs : run p (n + 1) = s) (h1 : s.amb = false) (h2 : s.st = 3 ∨ s.st = 4 ∨ s.st = 5 ∨ s.st = 6) : Going p (n + 1) := fun i hi => by
  by_cases e : i = n + 1
  · subst e
    rw [hs]
    rintro (h | h | h)
    · rw [h1] at h; cases h
    · omega
    · omega
  · exact h i (by omega)
theorem going_zero (p : Nat → Int) : Going p 0 := fun i hi => by
  obtain rfl : i = 0 := by omega
  rintro (h | h | h)
  · cases h
  · exact absurd (show (3 : Int) = 7 from h) (by decide)
  · exact absurd (show (3 : Int) = 10 from h) (by decide)

/-- What zzSizeLine answers of L bytes. -/
def Rel (p : Nat → Int) (L : Nat) (V k val h : Int) : Prop :=
  (V = 0 ∧ k = L ∧ Going p L ∧ (∃ st, (st = 3 ∨ st = 4 ∨ st = 5 ∨ st = 6) ∧ run p L = ⟨false, st, val, h⟩)) ∨
  (V = 2 ∧ ∃ n : Nat, k = (n + 1 : Nat) ∧ n < L ∧ Going p n ∧ (run p (n + 1)).amb = true) ∨
  (V = 1 ∧ ∃ n : Nat, k = (n + 1 : Nat) ∧ n < L ∧ Going p n ∧ run p (n + 1) = ⟨false, if val = 0 then 10 else 7, val, h⟩)
def SizeSaid (p : Nat → Int) (L : Nat) (r : Ending) : Prop := ∃ V k val h, r = .returned (.tuple #[.int .i64 V, .int .i64 k, .int .u64 val, .int .i64 h]) ∧ Rel p L V k val h
theorem results_tmp4 {fn : Func} {t u v x : Tmp} (h : fn.results = #[.tmp t, .tmp u, .tmp v, .tmp x]) (tmps : Array Value) (P : Program) (w : World) :
    (results fn tmps).run P w = .ok (.tuple #[tmps.getD t undef, tmps.getD u undef, tmps.getD v undef, tmps.getD x undef]) w := by
  simp [results, h]

/-- The hex digits: the states of the first loop. -/
structure InHex (p : Nat → Int) (L h : Nat) (val : Int) : Prop where
  le : h ≤ L
  le16 : h ≤ 16
  v0 : 0 ≤ val
  v1 : val < ((16 ^ h : Nat) : Int)
  at_ : run p h = ⟨false, 3, val, h⟩
  going : Going p h
theorem InHex.small {p : Nat → Int} {L h : Nat} {val : Int} (H : InHex p L h val) (hh : h < 16) : val < 1152921504606846976 := by
  have h1 := H.v1
  have h2 : 16 ^ h ≤ 16 ^ 15 := Nat.pow_le_pow_right (by omega) (by omega)
  have h3 : (16 : Nat) ^ 15 = 1152921504606846976 := by decide
  omega
theorem inHex_start (p : Nat → Int) (L : Nat) : InHex p L 0 0 := ⟨Nat.zero_le _, by omega, by omega, by simp, rfl, going_zero p⟩
theorem step_3 (val h b : Int) : step ⟨false, 3, val, h⟩ b = stepSize ⟨false, 3, val, h⟩ b := rfl
theorem InHex.next {p : Nat → Int} {L h : Nat} {val d : Int} (H : InHex p L h val) (hh : h < 16) (hl : h < L) (hd : hexv (p h) = some d) : InHex p L (h + 1) (val * 16 + d) := by
  have hb := hexv_bd hd
  have hr : run p (h + 1) = ⟨false, 3, val * 16 + d, (h : Int) + 1⟩ := by
    show step (run p h) (p h) = _
    rw [H.at_, step_3]
    unfold stepSize
    rw [hd]
    simp only [show ((h : Int) < 16) from by omega, if_true]
  have h1 := H.v1
  have h0 := H.v0
  have e16 : 16 ^ (h + 1) = 16 ^ h * 16 := Nat.pow_succ ..
  refine ⟨by omega, by omega, by omega, ?_, by rw [hr]; simp, H.going.next hr rfl (.inl rfl)⟩
  rw [e16]
  omega
theorem InHex.full {p : Nat → Int} {L : Nat} {val d : Int} (H : InHex p L 16 val) (hl : 16 < L) (hd : hexv (p 16) = some d) : Rel p L 2 17 0 0 := by
  refine .inr (.inl ⟨rfl, 16, rfl, hl, H.going, ?_⟩)
  show (step (run p 16) (p 16)).amb = true
  rw [H.at_, step_3]
  unfold stepSize
  rw [hd]
  rfl
theorem InHex.ends {p : Nat → Int} {L : Nat} {val : Int} (H : InHex p L L val) : Rel p L 0 L val L := .inl ⟨rfl, rfl, H.going, 3, .inl rfl, H.at_⟩
theorem InHex.none0 {p : Nat → Int} {L : Nat} {val : Int} (H : InHex p L 0 val) (hl : 0 < L) (hd : hexv (p 0) = none) : Rel p L 2 1 0 0 := by
  refine .inr (.inl ⟨rfl, 0, rfl, hl, H.going, ?_⟩)
  show (step (run p 0) (p 0)).amb = true
  rw [H.at_, step_3]
  unfold stepSize
  rw [hd]
  rfl
/-- Behind the digits. -/
structure InSt (p : Nat → Int) (L q h : Nat) (st val : Int) : Prop where
  le : q ≤ L
  at_ : run p q = ⟨false, st, val, h⟩
  going : Going p q
theorem InHex.sep {p : Nat → Int} {L h : Nat} {val : Int} (H : InHex p L h val) (hl : h < L) (h0 : h ≠ 0) (hd : hexv (p h) = none) (st : Int)
    (hs : (p h = 59 ∧ st = 5) ∨ ((p h = 32 ∨ p h = 9) ∧ st = 4) ∨ (p h = 13 ∧ st = 6)) : InSt p L (h + 1) h st val := by
  have hr : run p (h + 1) = ⟨false, st, val, h⟩ := by
    show step (run p h) (p h) = _
    rw [H.at_, step_3]
    unfold stepSize
    rw [hd]
    have hne : ¬ ((h : Int) = 0) := by omega
    rcases hs with ⟨e, rfl⟩ | ⟨e, rfl⟩ | ⟨e, rfl⟩
    · simp only [hne, if_false, e, if_true]
    · have n1 : p h ≠ 59 := by omega
      simp only [hne, if_false, n1, e, if_true]
    · simp only [hne, if_false, e]
      rfl
  exact ⟨by omega, hr, H.going.next hr rfl (by rcases hs with ⟨_, rfl⟩ | ⟨_, rfl⟩ | ⟨_, rfl⟩ <;> simp)⟩
theorem InHex.bad {p : Nat → Int} {L h : Nat} {val : Int} (H : InHex p L h val) (hl : h < L) (h0 : h ≠ 0) (hd : hexv (p h) = none) (h59 : p h ≠ 59) (h32 : p h ≠ 32) (h9 : p h ≠ 9) (h13 : p h ≠ 13) : Rel p L 2 ((h : Int) + 1) 0 0 := by
  refine .inr (.inl ⟨rfl, h, by omega, hl, H.going, ?_⟩)
  show (step (run p h) (p h)).amb = true
  rw [H.at_, step_3]
  unfold stepSize
  rw [hd]
  have hne : ¬ ((h : Int) = 0) := by omega
  simp only [hne, h59, h32, h9, h13, or_self, if_false]
theorem InSt.ends {p : Nat → Int} {L h : Nat} {st val : Int} (H : InSt p L L h st val) (hs : st = 3 ∨ st = 4 ∨ st = 5 ∨ st = 6) : Rel p L 0 L val h := .inl ⟨rfl, rfl, H.going, st, hs, H.at_⟩
theorem InSt.ext {p : Nat → Int} {L q h : Nat} {val : Int} (H : InSt p L q h 5 val) (hl : q < L) (h13 : p q ≠ 13) (h10 : p q ≠ 10) : InSt p L (q + 1) h 5 val := by
  have hr : run p (q + 1) = ⟨false, 5, val, h⟩ := by
    show step (run p q) (p q) = _
    rw [H.at_]
    unfold step
    simp only [h13, h10, if_false]
    rfl
  exact ⟨by omega, hr, H.going.next hr rfl (by simp)⟩
theorem InSt.space {p : Nat → Int} {L q h : Nat} {val : Int} (H : InSt p L q h 4 val) (hl : q < L) (hs : p q = 32 ∨ p q = 9) : InSt p L (q + 1) h 4 val := by
  have hr : run p (q + 1) = ⟨false, 4, val, h⟩ := by
    show step (run p q) (p q) = _
    rw [H.at_]
    unfold step
    simp only [hs, if_true]
    rfl
  exact ⟨by omega, hr, H.going.next hr rfl (by simp)⟩
theorem InSt.extBad {p : Nat → Int} {L q h : Nat} {val : Int} (H : InSt p L q h 5 val) (hl : q < L) (h10 : p q = 10) : Rel p L 2 ((q : Int) + 1) 0 0 := by
  refine .inr (.inl ⟨rfl, q, by omega, hl, H.going, ?_⟩)
  show (step (run p q) (p q)).amb = true
  rw [H.at_, h10]
  rfl
theorem InSt.spaceBad {p : Nat → Int} {L q h : Nat} {val : Int} (H : InSt p L q h 4 val) (hl : q < L) (h32 : p q ≠ 32) (h9 : p q ≠ 9) (h13 : p q ≠ 13) : Rel p L 2 ((q : Int) + 1) 0 0 := by
  refine .inr (.inl ⟨rfl, q, by omega, hl, H.going, ?_⟩)
  show (step (run p q) (p q)).amb = true
  rw [H.at_]
  unfold step
  simp only [h32, h9, h13, or_self, if_false]
  rfl
theorem InSt.cr {p : Nat → Int} {L q h : Nat} {st val : Int} (H : InSt p L q h st val) (hst : st = 4 ∨ st = 5) (hl : q < L) (h13 : p q = 13) : InSt p L (q + 1) h 6 val := by
  have hr : run p (q + 1) = ⟨false, 6, val, h⟩ := by
    show step (run p q) (p q) = _
    rw [H.at_, h13]
    rcases hst with rfl | rfl <;> rfl
  exact ⟨by omega, hr, H.going.next hr rfl (by simp)⟩
theorem InSt.lfBad {p : Nat → Int} {L q h : Nat} {val : Int} (H : InSt p L q h 6 val) (hl : q < L) (h10 : p q ≠ 10) : Rel p L 2 ((q : Int) + 1) 0 0 := by
  refine .inr (.inl ⟨rfl, q, by omega, hl, H.going, ?_⟩)
  show (step (run p q) (p q)).amb = true
  rw [H.at_]
  unfold step
  simp only [h10, if_false]
  rfl
theorem InSt.lf {p : Nat → Int} {L q h : Nat} {val : Int} (H : InSt p L q h 6 val) (hl : q < L) (h10 : p q = 10) : Rel p L 1 ((q : Int) + 1) val h := by
  refine .inr (.inr ⟨rfl, q, by omega, hl, H.going, ?_⟩)
  show step (run p q) (p q) = _
  rw [H.at_, h10]
  unfold step
  by_cases e : val = 0
  · subst e; rfl
  · simp only [e, if_false]
    rfl
end Go.Proofs.Qxb6602878aMods
