/- The proof of 'Rows.FnLineEndsAddMatchesModelSaid': the frame after the guide's template; the walk out of the texts beside it. -/
import Derived.Test.Qxb6602878aModsRows
import Derived.WalkKit
import Derived.ProofKit
import Derived.OpenShut
import Derived.ShutString
import Derived.ChangeOld
import Derived.Below
import Derived.Test.Qxb6602878aModsLine
namespace Go.Proofs.Qxb6602878aMods.fnLineEndsAddMatchesModel
open Go.ChangeShapes Go.WideShapes Go.ChangeAt Go.RowKit
set_option linter.unusedVariables false

theorem own : ownKnob Trym.prog.godebug = none := by kernel_rfl
theorem laidOut : laidOutB Trym.prog = true := by kernel_rfl

/-- An array of bytes that came in by value. -/
theorem open_bytes {H : Type} {enc : TypeId × Value → H} {P : Program} {W : World} {base b0 n : Nat} {t e : TypeId} {r : Reach} {v : Value} {d : DataW H} {p : List MemPlace} {sp : Nat → Bool} {held : Bool}
    (ht : P.underlying t = some (.array n e)) (he : P.underlying e = some (.int .u8)) (hce : P.cellsOf e = 1) (hct : P.cellsOf t = n) (hv : Value.okWide P W r b0 t v) (h : DataW.Trod enc P W base sp held t v d p) :
    ∃ F : Nat → Int, v = .agg (arr n (by8 F)) := by
  have hv' : ∃ cs, v = .agg cs ∧ cs.size = P.cellsOf t := by
    simp only [Value.okWide, ht] at hv
    obtain ⟨cs, h1, h2, _⟩ := hv
    exact ⟨cs, h1, h2⟩
  obtain ⟨cs, rfl, hsz⟩ := hv'
  obtain ⟨fuel, hf⟩ := h
  obtain ⟨xs, m, _, _, _, hxl, hel⟩ := DataW.trod_array ht hf
  have key : ∀ i, i < n → ∃ z, cs[i]? = some (.int .u8 z) := by
    intro i hi
    have h1 := hel i hi
    rw [List.getElem?_eq_getElem (by omega)] at h1
    obtain ⟨z, hz, _⟩ := DataW.trod_int he h1
    rw [hce, Nat.mul_one] at hz
    refine ⟨z, ?_⟩
    have h2 : (((Value.agg cs).cells.toList.drop i).take 1)[0]? = some (.int .u8 z) := by rw [hz]; rfl
    simpa [Value.cells] using h2
  refine ⟨fun i => match cs[i]? with | some (.int _ z) => z | _ => 0, ?_⟩
  congr 1
  refine arr_ext n _ _ (by rw [hsz, hct]) (fun i hi => ?_)
  obtain ⟨z, hz⟩ := key i hi
  unfold by8
  simp only []
  rw [hz]

/-- What the walk is told of a slice of integers that came in. -/
def IsRow (k : IntKind) (w : World) (a : Option Addr) (len cap : Nat) (zs : List Int) : Prop :=
  (a = none ∧ len = 0 ∧ cap = 0 ∧ zs = []) ∨
  ∃ x, a = some x ∧ len ≤ cap ∧ cap ≤ maxLen ∧ zs.length = cap ∧ (∀ i, i < zs.length → w.cell? (x.add i) = some (.int k (zs.getD i 0))) ∧ ∀ n ∈ zs, (Lit.int k n).wf = true

/-! ### STEP 1: THE WALK -/
set_option maxRecDepth 100000 in
set_option maxHeartbeats 1000000 in
theorem early (n : Int) (F L : Nat → Int) (a : Option Addr) (l c : Nat) (w : World) (hl : l ≤ maxLen) (h : ¬ l ≤ 1048576 ∨ (l ≤ 1048576 ∧ n < 0)) :
    Calls Trym.prog 3 #[.int .i64 n, .agg (arr 64 (by8 F)), .agg (arr 9 (by8 L)), .slice a l c] w fun e w' => e = .returned (.bool true) ∧ Below w.heap.size w w' := by
  have g0 := hl
  unfold maxLen at g0
  rcases h with h | ⟨h, h'⟩
  all_goals
    go_enter Trym.func3, Trym.ntmps3
    go_wp2_with (first
      | (refine wpList_box rfl 22 _ rfl 64 (by8 F) rfl ?_; intro w1 g1 h1; have H1 := hide h1; clear h1)
      | (refine wpList_box rfl 23 _ rfl 9 (by8 L) rfl ?_; intro w2 g2 h2; have H2 := hide (TwoB.mk2 (unhide H1) h2); clear h2 H1)
      | (refine wpList_load_agg rfl 22 _ rfl Trym.agg22 g1 0 rfl (by8 F) (unhide H2).b1.cells0 ?_)
      | (refine wpList_load_agg rfl 23 _ rfl Trym.agg23 g2 0 rfl (by8 L) (unhide H2).b2.cells0 ?_))
    refine (bytes8_any n F L _ l _ _ hl).mono ?_
    rintro e w3 ⟨⟨r, rfl⟩, hb3⟩
    have H3 := hide ((unhide H2).next hb3)
    clear hb3 H2
    go_wp2
    all_goals (go_ret; exact ⟨rfl, (unhide H3).below⟩)

theorem walk (n : Int) (F L : Nat → Int) (a : Option Addr) (l c : Nat) (z : List Int) (w : World) (w3 : IsRow .u8 w a l c z) :
    Calls Trym.prog 3 #[.int .i64 n, .agg (arr 64 (by8 F)), .agg (arr 9 (by8 L)), .slice a l c] w fun e w' => e = .returned (.bool true) ∧ Below w.heap.size w w' := by
  have hl : l ≤ maxLen := by
    rcases w3 with ⟨_, h, _⟩ | ⟨_, _, h, h', _⟩
    · rw [h]; exact Nat.zero_le _
    · exact Nat.le_trans h h'
  by_cases s0 : l ≤ 1048576
  rotate_left
  · exact early n F L a l c w hl (.inl s0)
  by_cases s1 : n < 0
  · exact early n F L a l c w hl (.inr ⟨s0, s1⟩)
  by_cases s2 : l = 0
  · refine law_zero n F L (fun _ => 0) a l c w (by omega) s0 s2 (fun ha => ?_)
    rcases w3 with ⟨_, _, h, _⟩ | ⟨_, h, _⟩
    · exact h
    · rw [ha] at h; cases h
  · rcases w3 with ⟨_, h, _⟩ | ⟨x, rfl, h1, h2, h3, h4, h5⟩
    · exact absurd h s2
    · exact law_pos n F L (fun i => z.getD i 0) x l c w (by omega) s0 (by omega) (fun i hi => h4 i (by omega))

/-! ### THE ROW's STEP -/
set_option maxRecDepth 100000 in
theorem lifted (os : Os) (started : os.Started) (H : Type) (enc : TypeId × Value → H) :
    ReturnsInHanded {} Trym.checked os 3 .any (Rows.fnLineEndsAddMatchesModelSpec.pre6 enc Trym.prog Trym.f3 Rows.fnLineEndsAddMatchesModelRow.domain false) (Rows.fnLineEndsAddMatchesModelSpec.post enc Trym.prog Trym.f3 false true false false) := by
  refine returnsInHanded_of_change (C := Trym.checked) own started (by kernel_rfl) Trym.func3
    (ChangeSpec.witness6 (enc := enc) (C := Trym.checked) false ⟨#[], #[.int .i64 0, .agg (Array.replicate 64 (.int .u8 0)), .agg (Array.replicate 9 (.int .u8 0)), .slice none 0 0], []⟩ 8 (by kernel_rfl) (by kernel_rfl) (by kernel_rfl) (by kernel_rfl)) ?_
  intro W base args ds gs before hval0 hW hcnd _
  have hval : ∀ (j : Nat) t v, Trym.f3.params[j]? = some t → args[j]? = some v → Value.okWide Trym.prog W .any base t v := hval0
  have hW' := hW
  obtain ⟨p, q, hA0, hV, rfl, hfz, hnd⟩ := hW
  have hA : DataW.TrodAll enc Trym.prog W 0 (fun _ => true) true Trym.f3.params.toList args.toList ds p := hA0
  rw [Trym.params3] at hA hval
  obtain ⟨v0, vs0, d0, ds0, p0, q0, hargs, rfl, rfl, h0, r0⟩ := trodAll_cons hA
  obtain ⟨v1, vs1, d1, ds1, p1, q1, rfl, rfl, rfl, h1, r1⟩ := trodAll_cons r0
  obtain ⟨v2, vs2, d2, ds2, p2, q2, rfl, rfl, rfl, h2, r2⟩ := trodAll_cons r1
  obtain ⟨v3, vs3, d3, ds3, p3, q3, rfl, rfl, rfl, h3, r3⟩ := trodAll_cons r2
  obtain ⟨rfl, rfl, rfl⟩ := trodAll_nil r3
  obtain rfl : args = #[v0, v1, v2, v3] := by cases args; simp_all
  obtain ⟨rfl, rfl⟩ := trodVars_none hV
  have k1 := h1
  have lt1 : ∀ x ∈ p1, x.block < W.heap.size := by obtain ⟨m, hm⟩ := k1; exact DataW.trod_lt m _ _ _ hm
  have k2 := h2
  have lt2 : ∀ x ∈ p2, x.block < W.heap.size := by obtain ⟨m, hm⟩ := k2; exact DataW.trod_lt m _ _ _ hm
  have k3 := h3
  have lt3 : ∀ x ∈ p3, x.block < W.heap.size := by obtain ⟨m, hm⟩ := k3; exact DataW.trod_lt m _ _ _ hm
  obtain ⟨a0, rfl, rfl, rfl, w0⟩ := open_int Trym.underlying3 (hval 0 3 v0 rfl rfl) h0
  obtain ⟨F, rfl⟩ := open_bytes Trym.underlying22 Trym.underlying5 (by kernel_rfl) (by kernel_rfl) (hval 1 22 v1 rfl rfl) h1
  obtain ⟨L, rfl⟩ := open_bytes Trym.underlying23 Trym.underlying5 (by kernel_rfl) (by kernel_rfl) (hval 2 23 v2 rfl rfl) h2
  obtain ⟨a3, len3, cap3, rfl⟩ := okWide_slice Trym.underlying24 (hval 3 24 v3 rfl rfl)
  obtain ⟨z3, w3⟩ : ∃ zs, IsRow .u8 W a3 len3 cap3 zs := by
    obtain ⟨fuel, hf⟩ := h3
    rcases open_ints Trym.underlying24 Trym.underlying5 (by kernel_rfl) hf with ⟨hcs, _⟩ | ⟨x, l, c, zs, hcs, _, hl, hm, hz, _, hcell, hwz⟩
    · simp [Value.cells] at hcs
      obtain ⟨rfl, rfl, rfl⟩ := hcs
      exact ⟨[], .inl ⟨rfl, rfl, rfl, rfl⟩⟩
    · simp [Value.cells] at hcs
      obtain ⟨rfl, rfl, rfl⟩ := hcs
      exact ⟨zs, .inr ⟨_, rfl, hl, hm, by simpa using hz, hcell, hwz⟩⟩
  clear hA0 hval0
  refine (walk a0 F L a3 len3 cap3 z3 W w3).mono fun e W' ⟨he, bel⟩ => ?_
  subst he
  exact ⟨_, rfl, _, _, _, [], _, [], hW', trodAll_mk1 (shut_bool Trym.underlying4 _), (trodAll_cons_mk (shut_int Trym.underlying3 w0) (trodAll_cons_mk (Below.trod laidOut (by kernel_rfl) (of_decide_eq_true (by kernel_rfl)) k1 bel lt1) (trodAll_cons_mk (Below.trod laidOut (by kernel_rfl) (of_decide_eq_true (by kernel_rfl)) k2 bel lt2) (trodAll_cons_mk (Below.trod laidOut (by kernel_rfl) (of_decide_eq_true (by kernel_rfl)) k3 bel lt3) trodAll_mk0)))), rfl, bel.frame _, fun h => by cases h⟩

theorem over : Rows.fnLineEndsAddMatchesModelRow.holds Trym.pinned (OpenSpec.ofChange Rows.fnLineEndsAddMatchesModelSpec) :=
  OpenClaim.holds_of_wide 3 Trym.f3 rfl rfl rfl rfl rfl rfl rfl ⟨rfl, rfl, rfl, rfl, rfl⟩ rfl rfl rfl rfl rfl (by kernel_rfl) Trym.func3 (by kernel_rfl)
    (of_decide_eq_true (by kernel_rfl)) (by unfold Func.isWrapper; first | (rw [if_pos (by decide +kernel)]; kernel_rfl) | (rw [if_neg (by decide +kernel)]; exact ⟨rfl, rfl⟩))
    (fun os started H enc _ => lifted os started H enc)

theorem proved : Rows.FnLineEndsAddMatchesModelSaid := over
#print axioms proved
end Go.Proofs.Qxb6602878aMods.fnLineEndsAddMatchesModel
