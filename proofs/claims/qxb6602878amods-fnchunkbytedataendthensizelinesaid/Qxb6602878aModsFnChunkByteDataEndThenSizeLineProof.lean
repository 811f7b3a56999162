/- The proof of 'Rows.FnChunkByteDataEndThenSizeLineSaid': the frame after the guide's template; the walk out of the texts beside it. -/
import Derived.Test.Qxb6602878aModsRows
import Derived.WalkKit
import Derived.ProofKit
import Derived.OpenShut
import Derived.ShutString
import Derived.ChangeOld
import Derived.Below
import Derived.Test.Qxb6602878aModsDLaw3
import Derived.Test.Qxb6602878aModsOpen
namespace Go.Proofs.Qxb6602878aMods.fnChunkByteDataEndThenSizeLine
open Go.ChangeShapes Go.WideShapes Go.ChangeAt Go.RowKit
set_option linter.unusedVariables false

theorem own : ownKnob Trym.prog.godebug = none := by kernel_rfl
theorem laidOut : laidOutB Trym.prog = true := by kernel_rfl

theorem walk (f : Nat → Value) (amb : Bool) (st left dig : Int) (ha : Option Addr) (hl hc : Nat) (e : Nat → Int) (a : Option Addr) (l c : Nat) (p : Nat → Int) (w : World) (hT : TypV f) (h4 : Four f amb st left dig ha hl hc) (h1 : hl ≤ maxLen) (h2 : l ≤ maxLen)
    (hI : HasI w ha hl hc e) (hB : HasB w a l c p) (hp : ∀ i, 0 ≤ p i ∧ p i < 256) : Calls Trym.prog 7 #[.agg (arr 90 f), .slice a l c] w (DSaid w) := by
  by_cases s0 : 65536 < hl
  · exact dlaw_early f amb st left dig ha hl hc a l c w h4 h1 h2 (.inl s0)
  by_cases s1 : 524288 < l
  · exact dlaw_early f amb st left dig ha hl hc a l c w h4 h1 h2 (.inr (.inl ⟨by omega, s1⟩))
  by_cases s2 : st = 8
  rotate_left
  · exact dlaw_early f amb st left dig ha hl hc a l c w h4 h1 h2 (.inr (.inr (.inl ⟨by omega, by omega, s2⟩)))
  cases amb with
  | true => exact dlaw_early f true st left dig ha hl hc a l c w h4 h1 h2 (.inr (.inr (.inr ⟨by omega, by omega, s2, rfl⟩)))
  | false =>
    subst s2
    exact dlaw_main f left dig ha hl hc e a l c p w hT h4 (by omega) (by omega) hI hB hp

/-! ### THE ROW's STEP -/
set_option maxRecDepth 100000 in
theorem lifted (os : Os) (started : os.Started) (H : Type) (enc : TypeId × Value → H) :
    ReturnsInHanded {} Trym.checked os 7 .any (Rows.fnChunkByteDataEndThenSizeLineSpec.pre6 enc Trym.prog Trym.f7 Rows.fnChunkByteDataEndThenSizeLineRow.domain false) (Rows.fnChunkByteDataEndThenSizeLineSpec.post enc Trym.prog Trym.f7 false true false false) := by
  refine returnsInHanded_of_change (C := Trym.checked) own started (by kernel_rfl) Trym.func7
    (ChangeSpec.witness6 (enc := enc) (C := Trym.checked) false ⟨#[], #[.agg (#[.bool false, .bool false, .int .i64 0, .int .i64 0] ++ Array.replicate 64 (.int .u8 0) ++ Array.replicate 9 (.int .u8 0) ++ #[.int .i64 0, .bool false, .bool false, .int .i64 0, .int .u64 0, .int .i64 0, .bool false, .int .i64 0, .bool false, .bool false, .slice none 0 0, .int .u64 0, .int .i64 0]), .slice none 0 0], []⟩ 8 (by kernel_rfl) (by kernel_rfl) (by kernel_rfl) (by kernel_rfl)) ?_
  intro W base args ds gs before hval0 hW hcnd _
  have hval : ∀ (j : Nat) t v, Trym.f7.params[j]? = some t → args[j]? = some v → Value.okWide Trym.prog W .any base t v := hval0
  have hW' := hW
  obtain ⟨p, q, hA0, hV, rfl, hfz, hnd⟩ := hW
  have hA : DataW.TrodAll enc Trym.prog W 0 (fun _ => true) true Trym.f7.params.toList args.toList ds p := hA0
  rw [Trym.params7] at hA hval
  obtain ⟨v0, vs0, d0, ds0, p0, q0, hargs, rfl, rfl, h0, r0⟩ := trodAll_cons hA
  obtain ⟨v1, vs1, d1, ds1, p1, q1, rfl, rfl, rfl, h1, r1⟩ := trodAll_cons r0
  obtain ⟨rfl, rfl, rfl⟩ := trodAll_nil r1
  obtain rfl : args = #[v0, v1] := by cases args; simp_all
  obtain ⟨rfl, rfl⟩ := trodVars_none hV
  have k0 := h0
  have lt0 : ∀ x ∈ p0, x.block < W.heap.size := by obtain ⟨m, hm⟩ := k0; exact DataW.trod_lt m _ _ _ hm
  have k1 := h1
  have lt1 : ∀ x ∈ p1, x.block < W.heap.size := by obtain ⟨m, hm⟩ := k1; exact DataW.trod_lt m _ _ _ hm
  obtain ⟨f, amb, st, left, dig, ha, hl, hc, e, rfl, hT, h4, hm0, hI⟩ := open_frame (hval 0 34 v0 rfl rfl) h0
  obtain ⟨a, l, c, b, rfl, hm1, hB, hb⟩ := open_bs (hval 1 24 v1 rfl rfl) h1
  clear hA0 hval0
  refine (walk f amb st left dig ha hl hc e a l c b W hT h4 hm0 hm1 hI hB hb).mono fun e W' ⟨he, bel⟩ => ?_
  subst he
  exact ⟨_, rfl, _, _, _, [], _, [], hW', trodAll_mk1 (shut_bool Trym.underlying4 _), (trodAll_cons_mk (Below.trod laidOut (by kernel_rfl) (of_decide_eq_true (by kernel_rfl)) k0 bel lt0) (trodAll_cons_mk (Below.trod laidOut (by kernel_rfl) (of_decide_eq_true (by kernel_rfl)) k1 bel lt1) trodAll_mk0)), rfl, bel.frame _, fun h => by cases h⟩

theorem over : Rows.fnChunkByteDataEndThenSizeLineRow.holds Trym.pinned (OpenSpec.ofChange Rows.fnChunkByteDataEndThenSizeLineSpec) :=
  OpenClaim.holds_of_wide 7 Trym.f7 rfl rfl rfl rfl rfl rfl rfl ⟨rfl, rfl, rfl, rfl, rfl⟩ rfl rfl rfl rfl rfl (by kernel_rfl) Trym.func7 (by kernel_rfl)
    (of_decide_eq_true (by kernel_rfl)) (by unfold Func.isWrapper; first | (rw [if_pos (by decide +kernel)]; kernel_rfl) | (rw [if_neg (by decide +kernel)]; exact ⟨rfl, rfl⟩))
    (fun os started H enc _ => lifted os started H enc)

theorem proved : Rows.FnChunkByteDataEndThenSizeLineSaid := over
#print axioms proved
end Go.Proofs.Qxb6602878aMods.fnChunkByteDataEndThenSizeLine
