/- Seat b6602878aM: a FramePB1 that came in, opened into its 90 cells; a slice of bytes that came in. -/
import Derived.Test.Qxb6602878aModsDLaw2
import Derived.ProofKit
import Derived.OpenShut
import Derived.ChangeOld
namespace Go.Proofs.Qxb6602878aMods
open Go.ChangeShapes Go.WideShapes Go.RowKit

section
variable {H : Type} {enc : TypeId × Value → H} {P : Program} {w : World} {base : Nat} {sp : Nat → Bool} {held : Bool} {m : Nat} {t : TypeId} {cs : Array Value} {off i : Nat} {xs : List (DataW H × List MemPlace)}
theorem at_some {x : Value} (h : (cs.toList.drop off).take 1 = [x]) : cs[off]? = some x := by
  have h2 : ((cs.toList.drop off).take 1)[0]? = some x := by rw [h]; rfl
  simpa using h2
theorem fld_bool (ht : P.underlying t = some .bool) (hc : P.cellsOf t = 1) (h : DataW.trod enc P w base sp held m t ((cs.toList.drop off).take (P.cellsOf t)) = xs[i]?) (hi : i < xs.length) : ∃ b, cs[off]? = some (.bool b) := by
  rw [List.getElem?_eq_getElem hi] at h
  obtain ⟨b, hb, _⟩ := DataW.trod_bool ht h
  rw [hc] at hb
  exact ⟨b, at_some hb⟩
theorem fld_int {k : IntKind} (ht : P.underlying t = some (.int k)) (hc : P.cellsOf t = 1) (h : DataW.trod enc P w base sp held m t ((cs.toList.drop off).take (P.cellsOf t)) = xs[i]?) (hi : i < xs.length) : ∃ z, cs[off]? = some (.int k z) := by
  rw [List.getElem?_eq_getElem hi] at h
  obtain ⟨b, hb, _⟩ := DataW.trod_int ht h
  rw [hc] at hb
  exact ⟨b, at_some hb⟩
theorem fld_bytes {n : Nat} {e : TypeId} (ht : P.underlying t = some (.array n e)) (he : P.underlying e = some (.int .u8)) (hce : P.cellsOf e = 1) (hct : P.cellsOf t = n) (h : DataW.trod enc P w base sp held m t ((cs.toList.drop off).take (P.cellsOf t)) = xs[i]?) (hi : i < xs.length) :
    ∃ F : Nat → Int, ∀ j, j < n → cs[off + j]? = some (.int .u8 (F j)) := by
  rw [List.getElem?_eq_getElem hi] at h
  obtain ⟨ys, q, _, _, _, hyl, hel⟩ := DataW.trod_array ht h
  have key : ∀ j, j < n → ∃ z, cs[off + j]? = some (.int .u8 z) := by
    intro j hj
    have h1 := hel j hj
    rw [List.getElem?_eq_getElem (by omega)] at h1
    obtain ⟨z, hz, _⟩ := DataW.trod_int he h1
    rw [hce, Nat.mul_one, hct] at hz
    refine ⟨z, at_some ?_⟩
    rw [← hz, List.drop_take, List.drop_drop, List.take_take, Nat.min_eq_left (by omega)]
  refine ⟨fun j => match cs[off + j]? with | some (.int _ z) => z | _ => 0, fun j hj => ?_⟩
  obtain ⟨z, hz⟩ := key j hj
  simp only []
  rw [hz]
theorem fld_ints {e : TypeId} (ht : P.underlying t = some (.slice e)) (he : P.underlying e = some (.int .i64)) (hce : P.cellsOf e = 1) (hct : P.cellsOf t = 1) (h : DataW.trod enc P w base sp held m t ((cs.toList.drop off).take (P.cellsOf t)) = xs[i]?) (hi : i < xs.length) :
    ∃ a l c E, cs[off]? = some (.slice a l c) ∧ l ≤ maxLen ∧ HasI w a l c E := by
  rw [List.getElem?_eq_getElem hi] at h
  rw [hct] at h
  rcases open_ints ht he hce h with ⟨hcs, _⟩ | ⟨x, l, c, zs, hcs, _, hl, hm, hz, _, hcell, _⟩
  · exact ⟨none, 0, 0, fun _ => 0, at_some hcs, Nat.zero_le _, .inl ⟨rfl, rfl, rfl⟩⟩
  · refine ⟨some x, l, c, fun i => zs.getD i 0, at_some hcs, Nat.le_trans hl hm, .inr ⟨x, rfl, fun i hi => hcell i ?_⟩⟩
    rw [hz]
    split <;> omega
end

theorem open_frame {H : Type} {enc : TypeId × Value → H} {W : World} {base b0 : Nat} {r : Reach} {v : Value} {d : DataW H} {p : List MemPlace} {sp : Nat → Bool} {held : Bool}
    (hv : Value.okWide Trym.prog W r b0 34 v) (h : DataW.Trod enc Trym.prog W base sp held 34 v d p) :
    ∃ (f : Nat → Value) (amb : Bool) (st left dig : Int) (ha : Option Addr) (hl hc : Nat) (e : Nat → Int), v = .agg (arr 90 f) ∧ TypV f ∧ Four f amb st left dig ha hl hc ∧ hl ≤ maxLen ∧ HasI W ha hl hc e := by
  have hv' : ∃ cs, v = .agg cs ∧ cs.size = Trym.prog.cellsOf 34 := by
    simp only [Value.okWide, Trym.underlying34] at hv
    obtain ⟨cs, h1, h2, _⟩ := hv
    exact ⟨cs, h1, h2⟩
  obtain ⟨cs, rfl, hsz⟩ := hv'
  have h90 : Trym.prog.cellsOf 34 = 90 := by kernel_rfl
  rw [h90] at hsz
  obtain ⟨fuel, hf⟩ := h
  obtain ⟨xs, m, _, _, _, hxl, hel⟩ := DataW.trod_struct Trym.underlying34 hf
  have hcl : (Value.agg cs).cells.toList = cs.toList := by simp [Value.cells]
  rw [hcl] at hel
  have hx : xs.length = 19 := hxl
  have c4 : Trym.prog.cellsOf 4 = 1 := by kernel_rfl
  have c3 : Trym.prog.cellsOf 3 = 1 := by kernel_rfl
  have c31 : Trym.prog.cellsOf 31 = 1 := by kernel_rfl
  have c5 : Trym.prog.cellsOf 5 = 1 := by kernel_rfl
  have c32 : Trym.prog.cellsOf 32 = 1 := by kernel_rfl
  have c22 : Trym.prog.cellsOf 22 = 64 := by kernel_rfl
  have c23 : Trym.prog.cellsOf 23 = 9 := by kernel_rfl
  obtain ⟨b0, e0⟩ := fld_bool Trym.underlying4 c4 (hel 0 _ rfl) (by omega)
  obtain ⟨b1, e1⟩ := fld_bool Trym.underlying4 c4 (hel 1 _ rfl) (by omega)
  obtain ⟨i2, e2⟩ := fld_int Trym.underlying3 c3 (hel 2 _ rfl) (by omega)
  obtain ⟨i3, e3⟩ := fld_int Trym.underlying3 c3 (hel 3 _ rfl) (by omega)
  obtain ⟨F, eF⟩ := fld_bytes Trym.underlying22 Trym.underlying5 c5 c22 (hel 4 _ rfl) (by omega)
  obtain ⟨L, eL⟩ := fld_bytes Trym.underlying23 Trym.underlying5 c5 c23 (hel 5 _ rfl) (by omega)
  obtain ⟨i77, e77⟩ := fld_int Trym.underlying3 c3 (hel 6 _ rfl) (by omega)
  obtain ⟨b78, e78⟩ := fld_bool Trym.underlying4 c4 (hel 7 _ rfl) (by omega)
  obtain ⟨b79, e79⟩ := fld_bool Trym.underlying4 c4 (hel 8 _ rfl) (by omega)
  obtain ⟨i80, e80⟩ := fld_int Trym.underlying3 c3 (hel 9 _ rfl) (by omega)
  obtain ⟨u81, e81⟩ := fld_int Trym.underlying31 c31 (hel 10 _ rfl) (by omega)
  obtain ⟨i82, e82⟩ := fld_int Trym.underlying3 c3 (hel 11 _ rfl) (by omega)
  obtain ⟨b83, e83⟩ := fld_bool Trym.underlying4 c4 (hel 12 _ rfl) (by omega)
  obtain ⟨i84, e84⟩ := fld_int Trym.underlying3 c3 (hel 13 _ rfl) (by omega)
  obtain ⟨b85, e85⟩ := fld_bool Trym.underlying4 c4 (hel 14 _ rfl) (by omega)
  obtain ⟨b86, e86⟩ := fld_bool Trym.underlying4 c4 (hel 15 _ rfl) (by omega)
  obtain ⟨a, l, c, E, e87, hlm, hI⟩ := fld_ints Trym.underlying32 Trym.underlying3 c3 c32 (hel 16 _ rfl) (by omega)
  obtain ⟨u88, e88⟩ := fld_int Trym.underlying31 c31 (hel 17 _ rfl) (by omega)
  obtain ⟨i89, e89⟩ := fld_int Trym.underlying3 c3 (hel 18 _ rfl) (by omega)
  clear hel hf hxl
  have g : ∀ (j : Nat) (x : Value), cs[j]? = some x → (cs[j]?).getD undef = x := fun j x h => by rw [h]; rfl
  refine ⟨fun j => (cs[j]?).getD undef, b0, i2, u88, i89, a, l, c, E, ?_, ?_, ⟨g _ _ e0, g _ _ e2, g _ _ e88, g _ _ e89, g _ _ e87⟩, hlm, hI⟩
  · refine congrArg Value.agg (arr_ext 90 _ cs hsz (fun j hj => ?_))
    rw [Array.getElem?_eq_getElem (by omega)]
    rfl
  · refine ⟨fun j hj => ?_, fun j hj => ?_, fun j hj => ?_, ⟨F, fun j hj => g _ _ (eF j hj)⟩, ⟨L, fun j hj => g _ _ (eL j hj)⟩, ⟨a, l, c, g _ _ e87⟩⟩
    · rcases hj with rfl | rfl | rfl | rfl | rfl | rfl | rfl
      · exact ⟨_, g _ _ e0⟩
      · exact ⟨_, g _ _ e1⟩
      · exact ⟨_, g _ _ e78⟩
      · exact ⟨_, g _ _ e79⟩
      · exact ⟨_, g _ _ e83⟩
      · exact ⟨_, g _ _ e85⟩
      · exact ⟨_, g _ _ e86⟩
    · rcases hj with rfl | rfl | rfl | rfl | rfl | rfl | rfl
      · exact ⟨_, g _ _ e2⟩
      · exact ⟨_, g _ _ e3⟩
      · exact ⟨_, g _ _ e77⟩
      · exact ⟨_, g _ _ e80⟩
      · exact ⟨_, g _ _ e82⟩
      · exact ⟨_, g _ _ e84⟩
      · exact ⟨_, g _ _ e89⟩
    · rcases hj with rfl | rfl
      · exact ⟨_, g _ _ e81⟩
      · exact ⟨_, g _ _ e88⟩

theorem getD_mem_or : ∀ (zs : List Int) (i : Nat), zs.getD i 0 ∈ zs ∨ zs.getD i 0 = 0
  | [], _ => .inr rfl
  | z :: zs, 0 => .inl (List.mem_cons_self ..)
  | z :: zs, i + 1 => by
    rcases getD_mem_or zs i with h | h
    · exact .inl (List.mem_cons_of_mem _ h)
    · exact .inr h
theorem open_bs {H : Type} {enc : TypeId × Value → H} {W : World} {base b0 : Nat} {r : Reach} {v : Value} {d : DataW H} {p : List MemPlace} {sp : Nat → Bool} {held : Bool}
    (hv : Value.okWide Trym.prog W r b0 24 v) (h : DataW.Trod enc Trym.prog W base sp held 24 v d p) :
    ∃ (a : Option Addr) (l c : Nat) (q : Nat → Int), v = .slice a l c ∧ l ≤ maxLen ∧ HasB W a l c q ∧ ∀ i, 0 ≤ q i ∧ q i < 256 := by
  obtain ⟨a, l, c, rfl⟩ := okWide_slice Trym.underlying24 hv
  obtain ⟨fuel, hf⟩ := h
  rcases open_ints Trym.underlying24 Trym.underlying5 (by kernel_rfl) hf with ⟨hcs, _⟩ | ⟨x, l, c, zs, hcs, _, hl, hm, hz, _, hcell, hwz⟩
  · simp [Value.cells] at hcs
    obtain ⟨rfl, rfl, rfl⟩ := hcs
    exact ⟨none, 0, 0, fun _ => 0, rfl, Nat.zero_le _, .inl ⟨rfl, rfl, rfl⟩, fun _ => ⟨Int.le_refl 0, show (0 : Int) < 256 by omega⟩⟩
  · simp [Value.cells] at hcs
    obtain ⟨rfl, rfl, rfl⟩ := hcs
    refine ⟨_, _, _, fun i => zs.getD i 0, rfl, Nat.le_trans hl hm, .inr ⟨x, rfl, fun i hi => hcell i (by rw [hz]; split <;> omega)⟩, fun i => ?_⟩
    show 0 ≤ zs.getD i 0 ∧ zs.getD i 0 < 256
    rcases getD_mem_or zs i with h | h
    · have := hwz _ h
      generalize zs.getD i 0 = z at this ⊢
      simp [Lit.wf, IntKind.min, IntKind.max, IntKind.signed, IntKind.bits] at this
      omega
    · rw [h]; omega
end Go.Proofs.Qxb6602878aMods
