/- The proof of 'Rows.FnSignedDigitsRecomposeToScalarSaid': the frame is the seat's own shell; the walk out of the texts beside it. -/
import Derived.Test.Qxb6602816aModsRows
import Derived.WalkKit
import Derived.ProofKit
import Derived.OpenShut
import Derived.ShutString
import Derived.ChangeOld
import Derived.Below
import Derived.Test.Qxb6602816aModsRecomp
namespace Go.Proofs.Qxb6602816aMods.fnSignedDigitsRecomposeToScalar
open Go.ChangeShapes Go.WideShapes Go.ChangeAt Go.RowKit
open Go.ChangeMaps (open_string shut_string)
set_option linter.unusedVariables false

theorem own : ownKnob Trym.prog.godebug = none := by kernel_rfl
theorem laidOut : laidOutB Trym.prog = true := by kernel_rfl

/-- WHAT THE WALK IS TOLD OF A SLICE OF INTEGERS THAT CAME IN: it is nil; or it leads to a row of 'cap' cells, the numbers 'zs' (the first 'len' are its elements, the rest its spare room), each fitting its kind. -/
def IsRow (k : IntKind) (w : World) (a : Option Addr) (len cap : Nat) (zs : List Int) : Prop :=
  (a = none ∧ len = 0 ∧ cap = 0 ∧ zs = []) ∨
  ∃ x, a = some x ∧ len ≤ cap ∧ cap ≤ maxLen ∧ zs.length = cap ∧ (∀ i, i < zs.length → w.cell? (x.add i) = some (.int k (zs.getD i 0))) ∧ ∀ n ∈ zs, (Lit.int k n).wf = true

/-! ### STEP 1: THE WALK -/
theorem u8_nat (z : List Int) (h : ∀ n ∈ z, (Lit.int .u8 n).wf = true) : ∀ i, ((z.getD i 0).toNat : Int) = z.getD i 0 ∧ (z.getD i 0).toNat ≤ 255 := by
  intro i
  by_cases hi : i < z.length
  · have hm : z.getD i 0 ∈ z := by rw [show z.getD i 0 = z[i] by simp [List.getD, hi]]; exact List.getElem_mem hi
    have := bounds_u8 (h _ hm)
    omega
  · rw [show z.getD i 0 = 0 by simp [List.getD, List.getElem?_eq_none (Nat.le_of_not_lt hi)]]; simp

set_option maxRecDepth 100000 in
set_option maxHeartbeats 1000000 in
theorem early (a0 : Option Addr) (len0 cap0 : Nat) (a1 : Int) (a2 : Option Addr) (len2 cap2 : Nat) (w : World) (h0 : len0 ≤ maxLen) (h2 : len2 ≤ maxLen) (k0 : 0 ≤ a1)
    (h : ¬ len0 ≤ 65536 ∨ (len0 ≤ 65536 ∧ ¬ len2 ≤ 65536) ∨ (len0 ≤ 65536 ∧ len2 ≤ 65536 ∧ a1 < 1) ∨ (len0 ≤ 65536 ∧ len2 ≤ 65536 ∧ 9 < a1)) :
    Calls Trym.prog 3 #[.slice a0 len0 cap0, .int .u64 a1, .slice a2 len2 cap2] w fun e w' => e = .returned (.bool true) ∧ Below w.heap.size w w' := by
  have g0 := h0
  have g2 := h2
  unfold maxLen at g0 g2
  rcases h with h | ⟨h, h'⟩ | ⟨h, h', h''⟩ | ⟨h, h', h''⟩
  all_goals
    go_enter Trym.func3, Trym.ntmps3
    go_wp2_with (go_at_call 5; refine (bytes5_any _ _ _ _ _ _ _ _ h0 h2).mono ?_; rintro e w' ⟨⟨r, rfl⟩, hw⟩; obtain rfl := hw.symm)
    all_goals (go_ret; exact ⟨rfl, Below.refl _ _⟩)

theorem walk (a0 : Option Addr) (len0 cap0 : Nat) (z0 : List Int) (a1 : Int) (a2 : Option Addr) (len2 cap2 : Nat) (z2 : List Int) (w : World) (w0 : IsRow .u8 w a0 len0 cap0 z0) (w1 : (Lit.int .u64 a1).wf = true) (w2 : IsRow .i16 w a2 len2 cap2 z2) :
    Calls Trym.prog 3 #[.slice a0 len0 cap0, .int .u64 a1, .slice a2 len2 cap2] w fun e w' => e = .returned (.bool true) ∧ Below w.heap.size w w' := by
  have k0 : 0 ≤ a1 := (bounds_u64 w1).1
  have hl0 : len0 ≤ maxLen := by
    rcases w0 with ⟨_, h, _⟩ | ⟨_, _, h, h', _⟩
    · rw [h]; exact Nat.zero_le _
    · exact Nat.le_trans h h'
  have hl2 : len2 ≤ maxLen := by
    rcases w2 with ⟨_, h, _⟩ | ⟨_, _, h, h', _⟩
    · rw [h]; exact Nat.zero_le _
    · exact Nat.le_trans h h'
  by_cases s0 : len0 ≤ 65536
  rotate_left
  · exact early _ _ _ _ _ _ _ _ hl0 hl2 k0 (.inl s0)
  by_cases s2 : len2 ≤ 65536
  rotate_left
  · exact early _ _ _ _ _ _ _ _ hl0 hl2 k0 (.inr (.inl ⟨s0, s2⟩))
  by_cases s3 : a1 < 1
  · exact early _ _ _ _ _ _ _ _ hl0 hl2 k0 (.inr (.inr (.inl ⟨s0, s2, s3⟩)))
  by_cases s4 : 9 < a1
  · exact early _ _ _ _ _ _ _ _ hl0 hl2 k0 (.inr (.inr (.inr ⟨s0, s2, s4⟩)))
  obtain ⟨wd, rfl⟩ := Int.eq_ofNat_of_zero_le k0
  have q1 : 1 ≤ wd := by omega
  have q9 : wd ≤ 9 := by omega
  rcases w0 with ⟨rfl, rfl, rfl, _⟩ | ⟨x, rfl, hx1, hx2, hx3, hx4, hx5⟩
  · rcases w2 with ⟨rfl, rfl, rfl, _⟩ | ⟨y, rfl, hy1, hy2, hy3, hy4, hy5⟩
    · exact zero_nn wd w q1 q9
    · by_cases hn : len2 = 0
      · subst hn; exact zero_ns y cap2 wd w q1 q9
      · exact recomp_none wd y len2 cap2 z2 w (by omega) s2 hy1 q1 q9 hy3 hy4
  · have hu := u8_nat z0 hx5
    have hc : ∀ i, i < len0 → w.cell? (x.add i) = some (.int .u8 (((fun i => (z0.getD i 0).toNat) i : Nat) : Int)) := fun i hi => by
      simp only []
      rw [(hu i).1]; exact hx4 i (by omega)
    rcases w2 with ⟨rfl, rfl, rfl, _⟩ | ⟨y, rfl, hy1, hy2, hy3, hy4, hy5⟩
    · exact zero_sn x len0 cap0 (fun i => (z0.getD i 0).toNat) wd w q1 q9 s0 hc
    · by_cases hn : len2 = 0
      · subst hn; exact zero_ss x len0 cap0 (fun i => (z0.getD i 0).toNat) y cap2 wd w q1 q9 s0 hc
      · exact recomp_some x len0 cap0 (fun i => (z0.getD i 0).toNat) wd y len2 cap2 z2 w s0 (fun i => (hu i).2) hc (by omega) s2 hy1 q1 q9 hy3 hy4

/-! ### THE ROW's STEP: WRITTEN OUT: LEAVE IT -/
set_option maxRecDepth 100000 in
theorem lifted (os : Os) (started : os.Started) (H : Type) (enc : TypeId × Value → H) :
    ReturnsInHanded {} Trym.checked os 3 .any (Rows.fnSignedDigitsRecomposeToScalarSpec.pre6 enc Trym.prog Trym.f3 Rows.fnSignedDigitsRecomposeToScalarRow.domain false) (Rows.fnSignedDigitsRecomposeToScalarSpec.post enc Trym.prog Trym.f3 false true false false) := by
  refine returnsInHanded_of_change (C := Trym.checked) own started (by kernel_rfl) Trym.func3
    (ChangeSpec.witness6 (enc := enc) (C := Trym.checked) false ⟨#[], #[.slice none 0 0, .int .u64 0, .slice none 0 0], []⟩ 8 (by kernel_rfl) (by kernel_rfl) (by kernel_rfl) (by kernel_rfl)) ?_
  intro W base args ds gs before hval0 hW hcnd _
  have hval : ∀ (j : Nat) t v, Trym.f3.params[j]? = some t → args[j]? = some v → Value.okWide Trym.prog W .any base t v := hval0
  have hW' := hW
  obtain ⟨p, q, hA0, hV, rfl, hfz, hnd⟩ := hW
  have hA : DataW.TrodAll enc Trym.prog W 0 (fun _ => true) true Trym.f3.params.toList args.toList ds p := hA0
  rw [Trym.params3] at hA hval
  obtain ⟨v0, vs0, d0, ds0, p0, q0, hargs, rfl, rfl, h0, r0⟩ := trodAll_cons hA
  obtain ⟨v1, vs1, d1, ds1, p1, q1, rfl, rfl, rfl, h1, r1⟩ := trodAll_cons r0
  obtain ⟨v2, vs2, d2, ds2, p2, q2, rfl, rfl, rfl, h2, r2⟩ := trodAll_cons r1
  obtain ⟨rfl, rfl, rfl⟩ := trodAll_nil r2
  obtain rfl : args = #[v0, v1, v2] := by cases args; simp_all
  obtain ⟨rfl, rfl⟩ := trodVars_none hV
  obtain ⟨a0, len0, cap0, rfl⟩ := okWide_slice Trym.underlying22 (hval 0 22 v0 rfl rfl)
  have k0 := h0
  have lt0 : ∀ x ∈ p0, x.block < W.heap.size := by obtain ⟨m, hm⟩ := k0; exact DataW.trod_lt m _ _ _ hm
  obtain ⟨z0, w0⟩ : ∃ zs, IsRow .u8 W a0 len0 cap0 zs := by
    obtain ⟨fuel, hf⟩ := h0
    rcases open_ints Trym.underlying22 Trym.underlying5 (by kernel_rfl) hf with ⟨hcs, _⟩ | ⟨x, l, c, zs, hcs, _, hl, hm, hz, _, hcell, hwz⟩
    · simp [Value.cells] at hcs
      obtain ⟨rfl, rfl, rfl⟩ := hcs
      exact ⟨[], .inl ⟨rfl, rfl, rfl, rfl⟩⟩
    · simp [Value.cells] at hcs
      obtain ⟨rfl, rfl, rfl⟩ := hcs
      exact ⟨zs, .inr ⟨_, rfl, hl, hm, by simpa using hz, hcell, hwz⟩⟩
  obtain ⟨a1, rfl, rfl, rfl, w1⟩ := open_int Trym.underlying23 (hval 1 23 v1 rfl rfl) h1
  obtain ⟨a2, len2, cap2, rfl⟩ := okWide_slice Trym.underlying24 (hval 2 24 v2 rfl rfl)
  have k2 := h2
  have lt2 : ∀ x ∈ p2, x.block < W.heap.size := by obtain ⟨m, hm⟩ := k2; exact DataW.trod_lt m _ _ _ hm
  obtain ⟨z2, w2⟩ : ∃ zs, IsRow .i16 W a2 len2 cap2 zs := by
    obtain ⟨fuel, hf⟩ := h2
    rcases open_ints Trym.underlying24 Trym.underlying28 (by kernel_rfl) hf with ⟨hcs, _⟩ | ⟨x, l, c, zs, hcs, _, hl, hm, hz, _, hcell, hwz⟩
    · simp [Value.cells] at hcs
      obtain ⟨rfl, rfl, rfl⟩ := hcs
      exact ⟨[], .inl ⟨rfl, rfl, rfl, rfl⟩⟩
    · simp [Value.cells] at hcs
      obtain ⟨rfl, rfl, rfl⟩ := hcs
      exact ⟨zs, .inr ⟨_, rfl, hl, hm, by simpa using hz, hcell, hwz⟩⟩
  clear hA0 hval0
  refine (walk a0 len0 cap0 z0 a1 a2 len2 cap2 z2 W w0 w1 w2).mono fun e W' ⟨he, bel⟩ => ?_
  subst he
  exact ⟨_, rfl, _, _, _, [], _, [], hW', trodAll_mk1 (shut_bool Trym.underlying4 _), (trodAll_cons_mk (Below.trod laidOut (by kernel_rfl) (of_decide_eq_true (by kernel_rfl)) k0 bel lt0) (trodAll_cons_mk (shut_int Trym.underlying23 w1) (trodAll_cons_mk (Below.trod laidOut (by kernel_rfl) (of_decide_eq_true (by kernel_rfl)) k2 bel lt2) trodAll_mk0))), rfl, bel.frame _, fun h => by cases h⟩

theorem over : Rows.fnSignedDigitsRecomposeToScalarRow.holds Trym.pinned (OpenSpec.ofChange Rows.fnSignedDigitsRecomposeToScalarSpec) :=
  OpenClaim.holds_of_wide 3 Trym.f3 rfl rfl rfl rfl rfl rfl rfl ⟨rfl, rfl, rfl, rfl, rfl⟩ rfl rfl rfl rfl rfl (by kernel_rfl) Trym.func3 (by kernel_rfl)
    (of_decide_eq_true (by kernel_rfl)) (by unfold Func.isWrapper; first | (rw [if_pos (by decide +kernel)]; kernel_rfl) | (rw [if_neg (by decide +kernel)]; exact ⟨rfl, rfl⟩))
    (fun os started H enc _ => lifted os started H enc)

/-- ████ THE STATEMENT ████ -/
theorem proved : Rows.FnSignedDigitsRecomposeToScalarSaid := over
#print axioms proved
end Go.Proofs.Qxb6602816aMods.fnSignedDigitsRecomposeToScalar
