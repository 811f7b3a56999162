/- Seat b6601051aM: zzStringsBytes, zzListsBytes, zzCloneLists, zzBytes. -/
import Derived.Test.Qxb6601051aModsClone
namespace Go.Proofs.Qxb6601051aMods
open Go.RowKit

/-- Where there is an element, the slice is not nil and its cells are plain. -/
theorem Has.at {w : World} {a : Option Addr} {l c : Nat} {e : Nat → ByteArray} (h : Has w a l c e) {k : Nat} (hk : k < l) : ∃ b off, a = some ⟨b, off, none⟩ ∧ ∀ i, i < l → w.cell? ⟨b, off + i, none⟩ = some (.string (e i)) := by
  rcases h with ⟨_, h, _⟩ | ⟨⟨b, off, spot⟩, rfl, hc⟩
  · omega
  · have hs : spot = none := by simpa [Addr.add] using World.cell?_spot (hc 0 (by omega))
    subst hs
    exact ⟨b, off, rfl, fun i hi => by rw [← Addr.add_lit]; exact hc i hi⟩

def AnInt (r : Ending) : Prop := ∃ T, r = .returned (.int .i64 T)

set_option maxHeartbeats 1000000 in
theorem strBytes_any (a : Option Addr) (l c : Nat) (e : Nat → ByteArray) (w : World) (hl : l ≤ maxLen) (hs : ∀ i, (e i).size ≤ maxLen) (hh : Has w a l c e) :
    Calls Trym.prog 6 #[.slice a l c] w fun r w' => AnInt r ∧ w' = w := by
  unfold maxLen at hl
  have HH := hide hh
  have HS := hide hs
  clear hh hs
  go_enter Trym.func6, Trym.ntmps6
  go_wp2
  · go_ret
    exact ⟨⟨_, rfl⟩, rfl⟩
  · go_ret
    exact ⟨⟨_, rfl⟩, rfl⟩
  go_loop [3, 4] (fun t i => ∃ (T : Int) (k : Nat), k ≤ l ∧ t = .int .i64 T ∧ i = .int .i64 k) (fun _ i => l - (intOf i).toNat)
  case atStart => exact ⟨_, 0, Nat.zero_le _, rfl, rfl⟩
  case round =>
    obtain ⟨T, k, hk, rfl, rfl⟩ := hrel
    by_cases hlt : k < l
    · obtain ⟨b, off, rfl, hc⟩ := (unhide HH).at hlt
      have hck := hc k hlt
      have hsk := (unhide HS) k
      unfold maxLen at hsk
      clear hc
      go_wp2
      · go_ret
        exact ⟨⟨_, rfl⟩, rfl⟩
      · go_ret
        exact ⟨⟨_, rfl⟩, rfl⟩
      · go_round
        case rel => exact ⟨_, k + 1, by omega, rfl, by go_num⟩
        case measure => simp [intOf]; omega
    · go_wp2
      go_ret
      exact ⟨⟨_, rfl⟩, rfl⟩

/-- The slice of slices as it came in. -/
def HasL (w : World) (a : Option Addr) (m c : Nat) (la : Nat → Option Addr) (ln lc : Nat → Nat) (el : Nat → Nat → ByteArray) : Prop :=
  (a = none ∧ m = 0 ∧ c = 0) ∨ ∃ x, a = some x ∧ ∀ i, i < m → w.cell? (x.add i) = some (.slice (la i) (ln i) (lc i)) ∧ Has w (la i) (ln i) (lc i) (el i)
theorem HasL.at {w : World} {a : Option Addr} {m c : Nat} {la : Nat → Option Addr} {ln lc : Nat → Nat} {el : Nat → Nat → ByteArray} (h : HasL w a m c la ln lc el) {k : Nat} (hk : k < m) :
    ∃ b off, a = some ⟨b, off, none⟩ ∧ ∀ i, i < m → w.cell? ⟨b, off + i, none⟩ = some (.slice (la i) (ln i) (lc i)) ∧ Has w (la i) (ln i) (lc i) (el i) := by
  rcases h with ⟨_, h, _⟩ | ⟨⟨b, off, spot⟩, rfl, hc⟩
  · omega
  · have hs : spot = none := by simpa [Addr.add] using World.cell?_spot (hc 0 (by omega)).1
    subst hs
    exact ⟨b, off, rfl, fun i hi => by rw [← Addr.add_lit]; exact hc i hi⟩

set_option maxHeartbeats 1000000 in
theorem listBytes_any (a : Option Addr) (m c : Nat) (la : Nat → Option Addr) (ln lc : Nat → Nat) (el : Nat → Nat → ByteArray) (w : World) (hm : m ≤ maxLen) (hln : ∀ i, i < m → ln i ≤ maxLen) (hs : ∀ i j, (el i j).size ≤ maxLen) (hh : HasL w a m c la ln lc el) :
    Calls Trym.prog 7 #[.slice a m c] w fun r w' => AnInt r ∧ w' = w := by
  unfold maxLen at hm
  have HH := hide hh
  have HS := hide hs
  have HLN := hide hln
  clear hh hs hln
  go_enter Trym.func7, Trym.ntmps7
  go_wp2
  · go_ret
    exact ⟨⟨_, rfl⟩, rfl⟩
  · go_ret
    exact ⟨⟨_, rfl⟩, rfl⟩
  go_loop [3, 4] (fun t i => ∃ (T : Int) (k : Nat), k ≤ m ∧ t = .int .i64 T ∧ i = .int .i64 k) (fun _ i => m - (intOf i).toNat)
  case atStart => exact ⟨_, 0, Nat.zero_le _, rfl, rfl⟩
  case round =>
    obtain ⟨T, k, hk, rfl, rfl⟩ := hrel
    by_cases hlt : k < m
    · obtain ⟨b, off, rfl, hc⟩ := (unhide HH).at hlt
      obtain ⟨hck, hhk⟩ := hc k hlt
      have HHK := hide hhk
      clear hc hhk
      go_wp2_with (go_at_call 6; refine (strBytes_any (la k) (ln k) (lc k) (el k) _ ((unhide HLN) k hlt) ((unhide HS) k) (unhide HHK)).mono ?_; rintro r w' ⟨⟨T2, rfl⟩, hw⟩; obtain rfl := hw.symm)
      · go_ret
        exact ⟨⟨_, rfl⟩, rfl⟩
      · go_round
        case rel => exact ⟨_, k + 1, by omega, rfl, by go_num⟩
        case measure => simp [intOf]; omega
    · go_wp2
      go_ret
      exact ⟨⟨_, rfl⟩, rfl⟩

/-- A slice of slices of the call's own, from block B on. -/
def ContL (B : Nat) (w : World) (a : Option Addr) (m : Nat) (ln : Nat → Nat) (el : Nat → Nat → ByteArray) : Prop :=
  m = 0 ∨ ∃ (g : Nat) (lv : Nat → Option Addr), a = some ⟨g, 0, none⟩ ∧ B ≤ g ∧ Blk w g m (fun i => .slice (lv i) (ln i) (ln i)) ∧ ∀ i, i < m → Cont (g + 1) w (lv i) (ln i) (el i)

set_option maxHeartbeats 1000000 in
theorem cloneLists_zero (a : Option Addr) (c : Nat) (w : World) (hac : a = none → c = 0) : Calls Trym.prog 9 #[.slice a 0 c] w fun e w' => (∃ a', e = .returned (.slice a' 0 0)) ∧ Below w.heap.size w w' := by
  have heql := fun (wx : World) (a : Option Addr) (l c : Nat) => Lib.run_eql_slice_nil (P := Trym.prog) wx 23 22 a l c 0 0 Trym.underlying23
  cases a with
  | none =>
    obtain rfl := hac rfl
    go_enter Trym.func9, Trym.ntmps9
    go_wp2
    go_ret
    exact ⟨⟨_, rfl⟩, Below.refl _ _⟩
  | some x =>
    clear hac
    go_enter Trym.func9, Trym.ntmps9
    go_wp2_with (at_make; refine wpList_make_one rfl _ _ 23 rfl 22 (.slice none 0 0) rfl 24 Trym.underlying23 Trym.info22 .i64 .i64 0 rfl rfl (by omega) (by omega) ?_; intro w1 g hn; have HN := hide hn; clear hn)
    go_loopw [4] (fun i wr => i = .int .i64 0 ∧ w1 = wr) (fun _ _ => 0)
    case atStart => exact ⟨rfl, rfl⟩
    case round =>
      obtain ⟨rfl, rfl⟩ := hrel
      go_wp2
      go_ret
      exact ⟨⟨_, rfl⟩, (unhide HN).below⟩

set_option maxHeartbeats 1000000 in
theorem cloneLists_some (b off m c : Nat) (la : Nat → Option Addr) (ln lc : Nat → Nat) (el : Nat → Nat → ByteArray) (w : World) (hm : m ≤ 1048576) (hln : ∀ i, i < m → ln i ≤ 1048576)
    (hc : ∀ i, i < m → w.cell? ⟨b, off + i, none⟩ = some (.slice (la i) (ln i) (lc i)) ∧ Has w (la i) (ln i) (lc i) (el i)) :
    Calls Trym.prog 9 #[.slice (some ⟨b, off, none⟩) m c] w fun r w' => ∃ a', r = .returned (.slice a' m m) ∧ ContL w.heap.size w' a' m ln el ∧ Below w.heap.size w w' := by
  have heql := fun (wx : World) (a : Option Addr) (l c : Nat) => Lib.run_eql_slice_nil (P := Trym.prog) wx 23 22 a l c 0 0 Trym.underlying23
  have HC := hide hc
  have HLN := hide hln
  clear hc hln
  go_enter Trym.func9, Trym.ntmps9
  go_wp2_with (at_make; refine wpList_make_one rfl _ _ 23 rfl 22 (.slice none 0 0) rfl 24 Trym.underlying23 Trym.info22 .i64 .i64 m rfl rfl (by omega) (by omega) ?_; intro w1 g hn; have HN := hide hn; clear hn)
  go_loopw [4] (fun i wr => ∃ (k : Nat) (lv : Nat → Option Addr), k ≤ m ∧ i = .int .i64 k ∧ Blk wr g m (fun j => if j < k then .slice (lv j) (ln j) (ln j) else .slice none 0 0) ∧ (∀ i, i < k → Cont (g + 1) wr (lv i) (ln i) (el i)) ∧ Below w.heap.size w wr) (fun i _ => m - (intOf i).toNat)
  case atStart => exact ⟨0, fun _ => none, Nat.zero_le _, rfl, (unhide HN).blk.congr (fun j _ => by simp), fun i hi => by omega, (unhide HN).below⟩
  case round =>
    obtain ⟨k, lv, hk, rfl, hb, hcon, hbel⟩ := hrel
    have HB := hide hb
    have HCON := hide hcon
    have HBEL := hide hbel
    by_cases hlt : k < m
    · obtain ⟨hc0, hhas⟩ := (unhide HC) k hlt
      have hc1 : wr.cell? ⟨b, off + k, none⟩ = some (.slice (la k) (ln k) (lc k)) := cell_later hbel hc0
      have HHAS := hide (hhas.next hbel)
      clear hb hcon hbel hc0 hhas
      go_wp2_with fail
      refine (clone_any (la k) (ln k) (lc k) (el k) wr ((unhide HLN) k hlt) (unhide HHAS)).mono ?_
      rintro r w2 ⟨a2, rfl, hcont2, hb2⟩
      have hB2 := below_blk hb2 (unhide HB).lt (unhide HB)
      have hd := hB2.cell k hlt
      have hf := hB2.frozen k
      simp only [Nat.lt_irrefl, if_false] at hd
      have HB2 := hide hB2
      have HCONT2 := hide hcont2
      have HBL2 := hide hb2
      clear hB2 hcont2 hb2
      go_wp2
      go_roundw
      case rel =>
        have hglt : g < wr.heap.size := (unhide HB).lt
        refine ⟨k + 1, fun j => if j = k then a2 else lv j, by omega, by go_num, ((unhide HB2).setCell k _).congr (fun j hj => ?_), fun i hi => ?_, ?_⟩
        · by_cases h1 : j = k
          · subst h1; simp
          · by_cases h2 : j < k
            · simp [h1, h2, show j < k + 1 by omega]
            · simp [h1, h2, show ¬ j < k + 1 by omega]
        · have hbt : But g w2 (w2.setCell ⟨g, k, none⟩ (.slice a2 (ln k) (ln k))) := (But.refl g w2).setCell _ _
          by_cases h1 : i = k
          · subst h1
            simp only [if_true]
            exact ((unhide HCONT2).mono (by omega)).but hbt (by omega)
          · simp only [h1, if_false]
            exact (((unhide HCON) i (by omega)).next (unhide HBL2)).but hbt (by omega)
        · have h1 : w.heap.size ≤ g := by rw [(unhide HN).at_]; exact Nat.le_refl _
          exact ((unhide HBEL).trans ((unhide HBL2).mono (unhide HBEL).size)).setCell h1 _
      case measure => simp [intOf]; omega
    · obtain rfl : k = m := by omega
      clear hb hcon hbel
      go_wp2
      go_ret
      exact ⟨_, rfl, .inr ⟨g, lv, rfl, by rw [(unhide HN).at_]; exact Nat.le_refl _, (unhide HB).congr (fun j hj => by simp [hj]), unhide HCON⟩, unhide HBEL⟩

/-- zzCloneLists, whatever slice. -/
theorem cloneLists_any (a : Option Addr) (m c : Nat) (la : Nat → Option Addr) (ln lc : Nat → Nat) (el : Nat → Nat → ByteArray) (w : World) (hm : m ≤ 1048576) (hln : ∀ i, i < m → ln i ≤ 1048576) (hh : HasL w a m c la ln lc el) :
    Calls Trym.prog 9 #[.slice a m c] w fun r w' => ∃ a', r = .returned (.slice a' m m) ∧ ContL w.heap.size w' a' m ln el ∧ Below w.heap.size w w' := by
  by_cases h0 : m = 0
  · subst h0
    refine (cloneLists_zero a c w (fun ha => ?_)).mono fun r w' h => ?_
    · rcases hh with ⟨_, _, h⟩ | ⟨x, h, _⟩
      · exact h
      · rw [ha] at h; cases h
    · obtain ⟨⟨a', h1⟩, h2⟩ := h
      exact ⟨a', h1, .inl rfl, h2⟩
  · obtain ⟨b, off, rfl, hc⟩ := hh.at (k := 0) (by omega)
    exact cloneLists_some b off m c la ln lc el w hm hln hc

/-- What zzBytes answers: a bool; true only where the lengths are small. -/
def SmallSaid (n m : Nat) (ln : Nat → Nat) (r : Ending) : Prop := ∃ y, r = .returned (.bool y) ∧ (y = true → n ≤ 1048576 ∧ m ≤ 1048576 ∧ ∀ i, i < m → ln i ≤ 1048576)
theorem smallSaid_no (n m : Nat) (ln : Nat → Nat) : SmallSaid n m ln (.returned (.bool false)) := ⟨false, rfl, fun h => by cases h⟩

set_option maxHeartbeats 4000000 in
theorem bytes5_any (a0 : Option Addr) (n c0 : Nat) (e : Nat → ByteArray) (a : Option Addr) (m c : Nat) (la : Nat → Option Addr) (ln lc : Nat → Nat) (el : Nat → Nat → ByteArray) (w : World) (hn : n ≤ maxLen) (hse : ∀ i, (e i).size ≤ maxLen) (hh0 : Has w a0 n c0 e)
    (hm : m ≤ maxLen) (hln : ∀ i, i < m → ln i ≤ maxLen) (hs : ∀ i j, (el i j).size ≤ maxLen) (hh : HasL w a m c la ln lc el) :
    Calls Trym.prog 5 #[.slice a0 n c0, .slice a m c] w fun r w' => SmallSaid n m ln r ∧ w' = w := by
  unfold maxLen at hm hn
  have HH0 := hide hh0
  have HSE := hide hse
  have HH := hide hh
  have HS := hide hs
  have HLN := hide hln
  clear hh hs hln hh0 hse
  by_cases n20 : n ≤ 1048576
  rotate_left
  · go_enter Trym.func5, Trym.ntmps5
    go_wp2
    go_ret
    exact ⟨smallSaid_no _ _ _, rfl⟩
  by_cases m20 : m ≤ 1048576
  rotate_left
  · have mz : (1048576 : Int) < (m : Int) := by omega
    go_enter Trym.func5, Trym.ntmps5
    go_wp2
    go_loop [5, 6] (fun t i => ∃ (T : Int) (k : Nat), k ≤ n ∧ t = .int .i64 T ∧ i = .int .i64 k) (fun _ i => n - (intOf i).toNat)
    case atStart => exact ⟨_, 0, Nat.zero_le _, rfl, rfl⟩
    case round =>
      obtain ⟨T, k, hk, rfl, rfl⟩ := hrel
      by_cases hlt : k < n
      · obtain ⟨b, off, rfl, hc⟩ := (unhide HH0).at hlt
        have hck := hc k hlt
        have hsk := (unhide HSE) k
        unfold maxLen at hsk
        clear hc
        go_wp2
        · go_ret
          exact ⟨smallSaid_no _ _ _, rfl⟩
        · go_ret
          exact ⟨smallSaid_no _ _ _, rfl⟩
        · go_round
          case rel => exact ⟨_, k + 1, by omega, rfl, by go_num⟩
          case measure => simp [intOf]; omega
      · go_wp2
        go_ret
        exact ⟨smallSaid_no _ _ _, rfl⟩
  go_enter Trym.func5, Trym.ntmps5
  go_wp2
  go_loop [5, 6] (fun t i => ∃ (T : Int) (k : Nat), k ≤ n ∧ t = .int .i64 T ∧ i = .int .i64 k) (fun _ i => n - (intOf i).toNat)
  case atStart => exact ⟨_, 0, Nat.zero_le _, rfl, rfl⟩
  case round =>
    obtain ⟨T, k, hk, rfl, rfl⟩ := hrel
    by_cases hlt : k < n
    · obtain ⟨b, off, rfl, hc⟩ := (unhide HH0).at hlt
      have hck := hc k hlt
      have hsk := (unhide HSE) k
      unfold maxLen at hsk
      clear hc
      go_wp2
      · go_ret
        exact ⟨smallSaid_no _ _ _, rfl⟩
      · go_ret
        exact ⟨smallSaid_no _ _ _, rfl⟩
      · go_round
        case rel => exact ⟨_, k + 1, by omega, rfl, by go_num⟩
        case measure => simp [intOf]; omega
    · go_wp2
      · go_ret
        exact ⟨smallSaid_no _ _ _, rfl⟩
      go_loop [5, 7, 8] (fun t i _ => ∃ (T : Int) (q : Nat), q ≤ m ∧ t = .int .i64 T ∧ i = .int .i64 q ∧ ∀ j, j < q → ln j ≤ 1048576) (fun _ i _ => m - (intOf i).toNat)
      case atStart => exact ⟨_, 0, Nat.zero_le _, rfl, rfl, fun j hj => by omega⟩
      case round =>
        obtain ⟨T2, q, hq, rfl, rfl, hsm⟩ := hrel
        have HSM := hide hsm
        clear hsm
        by_cases hlt2 : q < m
        · obtain ⟨b2, off2, rfl, hc2⟩ := (unhide HH).at hlt2
          obtain ⟨hcq, hhq⟩ := hc2 q hlt2
          have HHQ := hide hhq
          have hlq := (unhide HLN) q hlt2
          unfold maxLen at hlq
          clear hc2 hhq
          generalize hla : la q = laq at *
          generalize hlc : lc q = lcq at *
          clear hla hlc
          by_cases l20 : ln q ≤ 1048576
          · go_wp2
            · go_ret
              exact ⟨smallSaid_no _ _ _, rfl⟩
            go_loop [5, 8] (fun t i => ∃ (T : Int) (j : Nat), j ≤ ln q ∧ t = .int .i64 T ∧ i = .int .i64 j) (fun _ i => ln q - (intOf i).toNat)
            case atStart => exact ⟨_, 0, Nat.zero_le _, rfl, rfl⟩
            case round =>
              obtain ⟨T3, j, hj, rfl, rfl⟩ := hrel
              by_cases hlt3 : j < ln q
              · obtain ⟨b3, off3, rfl, hc3⟩ := (unhide HHQ).at hlt3
                have hcj := hc3 j hlt3
                have hsj := (unhide HS) q j
                unfold maxLen at hsj
                clear hc3
                go_wp2
                · go_ret
                  exact ⟨smallSaid_no _ _ _, rfl⟩
                · go_ret
                  exact ⟨smallSaid_no _ _ _, rfl⟩
                · go_round
                  case rel => exact ⟨_, j + 1, by omega, rfl, by go_num⟩
                  case measure => simp [intOf]; omega
              · go_wp2
                go_round
                case rel => exact ⟨_, q + 1, by omega, rfl, by go_num, fun i hi => by
                  by_cases h1 : i = q
                  · subst h1; exact l20
                  · exact (unhide HSM) i (by omega)⟩
                case measure => simp [intOf]; omega
          · go_wp2
            go_ret
            exact ⟨smallSaid_no _ _ _, rfl⟩
        · obtain rfl : q = m := by omega
          go_wp2
          go_ret
          exact ⟨⟨true, rfl, fun _ => ⟨n20, m20, unhide HSM⟩⟩, rfl⟩
end Go.Proofs.Qxb6601051aMods
