/- Seat b6602878aM: the walk of FnLineEndsAddMatchesModel. -/
import Derived.Test.Qxb6602878aModsClone
import Derived.Deep.QuietTactic
import Derived.BigQuiet
namespace Go.Proofs.Qxb6602878aMods
open Go.RowKit

/-- The two boxes of the law's own arguments. -/
structure TwoB (w w' : World) (g1 g2 : Nat) (F L : Nat → Int) : Prop where
  below : Below w.heap.size w w'
  b1 : Blk w' g1 64 (by8 F)
  b2 : Blk w' g2 9 (by8 L)
  le1 : w.heap.size ≤ g1
  le2 : w.heap.size ≤ g2
theorem TwoB.mk2 {w w1 w2 : World} {g1 g2 : Nat} {F L : Nat → Int} (h1 : NewB w w1 g1 64 (by8 F)) (h2 : NewB w1 w2 g2 9 (by8 L)) : TwoB w w2 g1 g2 F L :=
  ⟨h2.below' h1.below, h2.old h1.blk, h2.blk, by rw [h1.at_]; exact Nat.le_refl _, by rw [h2.at_, h1.size]; omega⟩
theorem TwoB.next {w w' w'' : World} {g1 g2 : Nat} {F L : Nat → Int} (h : TwoB w w' g1 g2 F L) (hb : Below w'.heap.size w' w'') : TwoB w w'' g1 g2 F L :=
  ⟨h.below.trans (hb.mono h.below.size), below_blk hb h.b1.lt h.b1, below_blk hb h.b2.lt h.b2, h.le1, h.le2⟩
theorem TwoB.but {w w' w'' : World} {g1 g2 : Nat} {F L : Nat → Int} (h : TwoB w w' g1 g2 F L) {g : Nat} (hb : But g w' w'') (hg : w'.heap.size ≤ g ∨ (w.heap.size ≤ g ∧ g1 ≠ g ∧ g2 ≠ g)) : TwoB w w'' g1 g2 F L := by
  have n1 : g1 ≠ g := by rcases hg with h1 | h1; (have := h.b1.lt; omega); exact h1.2.1
  have n2 : g2 ≠ g := by rcases hg with h1 | h1; (have := h.b2.lt; omega); exact h1.2.2
  have hle : w.heap.size ≤ g := by rcases hg with h1 | h1; (have := h.below.size; omega); exact h1.1
  exact ⟨hb.below' h.below hle, hb.blk n1 h.b1, hb.blk n2 h.b2, h.le1, h.le2⟩

theorem grown_blk {w w' : World} {r : Option Nat} (h : w.grownBy w' r) {b n : Nat} {v : Nat → Value} (hb : Blk w b n v) (hr : some b ≠ r) : Blk w' b n v := hb.of_block (h.block b hb.lt hr)
theorem Trym.infoP5 : ∃ i, Trym.prog.info? 5 = some i ∧ i.zero = some (.int .u8 0) ∧ i.size = 1 ∧ i.bytes = 1 := info_parts Trym.info5

theorem by8_list_one (k : Nat) (p : Nat → Int) : ∀ u ∈ (List.range k).map (by8 p), u.oneCell' = true := mem_range_map (ones_by8 k p)
theorem joined_get (L p : Nat → Int) (l i : Nat) (hi : i < 9) : ([] ++ (List.range 9).map (by8 L) ++ (List.range l).map (by8 p))[l + i]? = some (by8 (newL l L p) i) := by
  rw [List.nil_append]
  unfold newL by8
  simp only []
  by_cases h : l + i < 9
  · rw [List.getElem?_append_left (by simpa using h), if_pos h]
    simp [h]
  · rw [List.getElem?_append_right (by simp; omega), if_neg h]
    simp only [List.length_map, List.length_range]
    rw [List.getElem?_map, List.getElem?_range (by omega)]
    rfl

theorem Blk.news {w : World} {g n : Nat} {v : Nat → Value} (h : Blk w g n v) : ∀ j u, ((List.range n).map v)[j]? = some u → w.cell? ((⟨g, 0, none⟩ : Addr).add j) = some u := fun j u hu => by
  obtain ⟨hj, rfl⟩ := range_get hu
  rw [Addr.add_lit]
  exact h.cells0 j hj

/-- Behind the stores: what the two loops read. -/
structure SR (w w9 : World) (g1 g2 g6 g7 : Nat) (F L F' L' : Nat → Int) : Prop where
  two : TwoB w w9 g1 g2 F L
  b6 : Blk w9 g6 64 (by8 F')
  b7 : Blk w9 g7 9 (by8 L')

/-- What the second loop reads. -/
structure Last (w wr : World) (g7 g9 l : Nat) (L' : Nat → Int) : Prop where
  below : Below w.heap.size w wr
  c1 : ∀ i, i < 9 → wr.cell? ⟨g7, i, none⟩ = some (.int .u8 (L' i))
  c2 : ∀ i, i < 9 → wr.cell? ⟨g9, l + i, none⟩ = some (.int .u8 (L' i))
theorem Last.drewN {w wr : World} {g7 g9 l : Nat} {L' : Nat → Int} (h : Last w wr g7 g9 l L') (q : Nat) : Last w (wr.drewN q) g7 g9 l L' :=
  ⟨⟨h.below.os, h.below.tape, h.below.output, h.below.size, h.below.block⟩, h.c1, h.c2⟩

theorem clone_zero (a : Option Addr) (l c : Nat) (w : World) (hl0 : l = 0) (hac : a = none → c = 0) :
    Calls Trym.prog 9 #[.slice a l c] w fun e w' => (∃ pa, e = .returned (.slice pa l l)) ∧ Below w.heap.size w w' := by
  subst hl0
  cases a with
  | none =>
    obtain rfl := hac rfl
    refine (clone_nil w).mono fun e w' h => ?_
    obtain ⟨he, hw⟩ := h
    subst hw
    exact ⟨⟨_, he⟩, Below.refl _ _⟩
  | some x =>
    refine (clone_some x 0 c (fun _ => 0) w (by omega) (fun i hi => by omega)).mono fun e w' h => ?_
    obtain ⟨g, he, hn⟩ := h
    exact ⟨⟨_, he⟩, hn.below⟩

set_option linter.unusedVariables false in
set_option maxRecDepth 100000 in
set_option maxHeartbeats 2000000 in
theorem law_pos (n : Int) (F L p : Nat → Int) (x : Addr) (l c : Nat) (w : World) (h0 : 0 ≤ n) (hl : l ≤ 1048576) (hl1 : 1 ≤ l) (hc : ∀ i, i < l → w.cell? (x.add i) = some (.int .u8 (p i))) :
    Calls Trym.prog 3 #[.int .i64 n, .agg (arr 64 (by8 F)), .agg (arr 9 (by8 L)), .slice (some x) l c] w fun e w' => e = .returned (.bool true) ∧ Below w.heap.size w w' := by
  have hpl : l ≤ maxLen := by unfold maxLen; omega
  have z1 : decide ((1048576 : Int) < (l : Int)) = false := by simp; omega
  have z2 : decide (n < 0) = false := by simp; omega
  have HC := hide hc
  clear hc
  go_enter Trym.func3, Trym.ntmps3
  go_wp2_with (first
    | (refine wpList_box rfl 22 _ rfl 64 (by8 F) rfl ?_; intro w1 g1 h1; have H1 := hide h1; clear h1)
    | (refine wpList_box rfl 23 _ rfl 9 (by8 L) rfl ?_; intro w2 g2 h2; have H2 := hide (TwoB.mk2 (unhide H1) h2); clear h2 H1)
    | (refine wpList_load_agg rfl 22 _ rfl Trym.agg22 g1 0 rfl (by8 F) (unhide H2).b1.cells0 ?_)
    | (refine wpList_load_agg rfl 23 _ rfl Trym.agg23 g2 0 rfl (by8 L) (unhide H2).b2.cells0 ?_))
  refine (bytes8_any n F L _ l _ _ hpl).mono ?_
  rintro e w3 ⟨⟨r, rfl⟩, hb3⟩
  have H3 := hide ((unhide H2).next hb3)
  clear hb3 H2
  go_wp2_with (first
    | (go_at_call 9; refine (clone_some x l c p _ hl (fun i hi => cell_later (unhide H3).below ((unhide HC) i hi))).mono ?_; rintro e w4 ⟨b, rfl, hnb⟩; have H4 := hide ((unhide H3).next hnb.below); have HNB := hide hnb; clear hnb)
    | (refine wpList_load_agg rfl 22 _ rfl Trym.agg22 g1 0 rfl (by8 F) (unhide H4).b1.cells0 ?_)
    | (refine wpList_load_agg rfl 23 _ rfl Trym.agg23 g2 0 rfl (by8 L) (unhide H4).b2.cells0 ?_))
  · go_ret
    exact ⟨rfl, (unhide H3).below⟩
  refine (zz10 n F L p l _ w4 h0 hl (fun g hg => .inr ⟨b, rfl, by have := (unhide HNB).at_; have := (unhide HNB).size; omega, (unhide HNB).blk⟩)).mono ?_
  rintro e w5 ⟨rfl, hb5⟩
  have H5 := hide ((unhide H4).next hb5)
  have HP5 := hide (below_blk hb5 (unhide HNB).blk.lt (unhide HNB).blk)
  clear hb5 H4 H3
  go_wp2_with (first
    | (refine wpList_new rfl 22 rfl 64 Trym.zero22 ?_; intro w6 g6 v6 h6; have H6 := hide h6; clear h6)
    | (refine wpList_new rfl 23 rfl 9 Trym.zero23 ?_; intro w7 g7 v7 h7; have H7 := hide h7; clear h7)
    | (refine wpList_store_agg rfl 22 _ _ rfl Trym.agg22 g6 0 64 (by8 (newF n l F p)) v6 rfl rfl ((unhide H7).old (unhide H6).blk) (by omega) (ones_by8 _ _) ?_; intro w8 hb8 hbut8; have HB8 := hide hb8; have HBUT8 := hide hbut8; clear hb8 hbut8)
    | (refine wpList_store_agg rfl 23 _ _ rfl Trym.agg23 g7 0 9 (by8 (newL l L p)) v7 rfl rfl ((unhide HBUT8).blk ((unhide H7).ne (unhide H6).blk).symm (unhide H7).blk) (by omega) (ones_by8 _ _) ?_; intro w9 hb9 hbut9; have HB9 := hide hb9; have HBUT9 := hide hbut9; clear hb9 hbut9))
  have SR9 : Hid (SR w w9 g1 g2 g6 g7 F L (newF n l F p) (newL l L p)) := by
    have t7 := ((unhide H5).next (unhide H6).below).next (unhide H7).below
    have a6 := (unhide H6).at_; have a7 := (unhide H7).at_; have s6 := (unhide H6).size
    have l1 := (unhide H5).b1.lt; have l2 := (unhide H5).b2.lt; have l0 := (unhide H5).below.size
    have t8 := t7.but (unhide HBUT8) (.inr ⟨by omega, by omega, by omega⟩)
    have t9 := t8.but (unhide HBUT9) (.inr ⟨by omega, by omega, by omega⟩)
    exact ⟨t9, (unhide HBUT9).blk (by omega) ((unhide HB8).congr (fun j hj => put_all 64 _ _ j hj)), (unhide HB9).congr (fun j hj => put_all 9 _ _ j hj)⟩
  have HP9 : Hid (Blk w9 b l (by8 p)) := by
    have k7 := (unhide H7).old ((unhide H6).old (unhide HP5))
    exact (unhide HBUT9).blk ((unhide H7).ne ((unhide H6).old (unhide HP5))) ((unhide HBUT8).blk ((unhide H6).ne (unhide HP5)) k7)
  clear HB8 HB9 HBUT8 HBUT9 H6 H7 H5 HP5 HNB
  go_wp2
  go_loop [12] (fun i => ∃ k : Nat, k ≤ 64 ∧ i = .int .i64 k) (fun i => 64 - (intOf i).toNat)
  case atStart => exact ⟨0, Nat.zero_le _, rfl⟩
  case round =>
    obtain ⟨k, hk, rfl⟩ := hrel
    by_cases hlt : k < 64
    · have kk : (k : Int) < 64 := by omega
      have c1 : w9.cell? ⟨g1, k, none⟩ = some (.int .u8 (F k)) := (unhide SR9).two.b1.cell k hlt
      have c2 : w9.cell? ⟨g6, k, none⟩ = some (.int .u8 (newF n l F p k)) := (unhide SR9).b6.cell k hlt
      by_cases hin : n ≤ (k : Int)
      · by_cases hin2 : (k : Int) - n < (l : Int)
        · have hF : newF n l F p k = p (k - n.toNat) := by unfold newF; rw [if_pos ⟨hin, hin2⟩]
          rw [hF] at c2
          have c3 : w9.cell? ⟨b, k - n.toNat, none⟩ = some (.int .u8 (p (k - n.toNat))) := (unhide HP9).cell _ (by omega)
          have i1 : ((k : Int) - n).toNat = k - n.toNat := by omega
          have i2 : (0 : Int) ≤ (k : Int) - n := by omega
          clear hF
          generalize p (k - n.toNat) = px at c2 c3
          go_wp2
          go_round
          case rel => exact ⟨k + 1, by omega, by go_num⟩
          case measure => simp [intOf]; omega
        · have hF : newF n l F p k = F k := by unfold newF; rw [if_neg (by omega)]
          rw [hF] at c2
          clear hF
          generalize F k = fx at c1 c2
          go_wp2
          go_round
          case rel => exact ⟨k + 1, by omega, by go_num⟩
          case measure => simp [intOf]; omega
      · have hF : newF n l F p k = F k := by unfold newF; rw [if_neg (by omega)]
        rw [hF] at c2
        clear hF
        generalize F k = fx at c1 c2
        go_wp2
        go_round
        case rel => exact ⟨k + 1, by omega, by go_num⟩
        case measure => simp [intOf]; omega
    · have kk : ¬ (k : Int) < 64 := by omega
      obtain ⟨ii, hii, hiz, his, hib⟩ := Trym.infoP5
      have hsl := fun wx => sliceAt_all 23 5 9 Trym.underlying23 Trym.size5 g2 0 wx
      have hsf := fun wx => fun gg => sliceAt_slice_from 24 5 Trym.underlying24 Trym.size5 gg 0 l (9 + l) (l : Int) rfl (by omega) wx
      have hsf2 := fun wx => fun gg => slice_from 24 5 Trym.underlying24 Trym.size5 gg 0 l (9 + l) (l : Int) rfl (by omega) wx
      go_wp2_with (first
        | (at_make; refine wpList_make_own _ rfl _ _ 24 rfl w9.heap.size 5 ii (.int .u8 0) 1 Trym.underlying24 hii hiz his .i64 .i64 (9 + (l : Int)) (9 + l) rfl rfl (by omega) (by rw [hib]; omega) (by unfold maxLen; omega) (Nat.le_refl _) ?_; intro w10 hown10 hgr10; have HO10 := hide hown10; have HG10 := hide hgr10; clear hown10 hgr10)
        | (at_builtin; refine wpList_append_fits _ rfl _ _ 24 rfl w9.heap.size 5 ii 1 Trym.underlying24 hii his w9.heap.size 0 (9 + l) [] rfl (unhide HO10) ⟨g2, 0, none⟩ 9 9 ((List.range 9).map (by8 L)) rfl (by simp) (grown_blk (unhide HG10) (unhide SR9).two.b2 (by simp)).news (by8_list_one 9 L) (by omega) ?_; intro w11 hown11 hgr11; have HO11 := hide hown11; have HG11 := hide hgr11; clear hown11 hgr11 HO10)
        | (at_builtin; refine wpList_append_fits _ rfl _ _ 24 rfl w9.heap.size 5 ii 1 Trym.underlying24 hii his w9.heap.size (0 + 9) (9 + l) ([] ++ (List.range 9).map (by8 L)) rfl (unhide HO11) ⟨b, 0, none⟩ l l ((List.range l).map (by8 p)) rfl (by simp) (grown_blk (unhide HG11) (grown_blk (unhide HG10) (unhide HP9) (by simp)) (by have := (unhide HP9).lt; simp; omega)).news (by8_list_one l p) (by omega) ?_; intro w12 hown12 hgr12; have HO12 := hide hown12; have HG12 := hide hgr12; clear hown12 hgr12 HO11))
      have HL : Hid (Last w w12 g7 w9.heap.size l (newL l L p)) := by
        have g7lt := (unhide SR9).b7.lt
        have q7 := grown_blk (unhide HG12) (grown_blk (unhide HG11) (grown_blk (unhide HG10) (unhide SR9).b7 (by simp)) (by simp; omega)) (by simp; omega)
        have l9 := (unhide SR9).two.below.size
        refine ⟨?_, fun i hi => q7.cell i hi, fun i hi => ?_⟩
        · refine (((unhide SR9).two.below.grown (unhide HG10) l9 (by simp)).grown (unhide HG11) ?_ (by simp; omega)).grown (unhide HG12) ?_ (by simp; omega)
          · exact Nat.le_trans l9 (unhide HG10).size
          · exact Nat.le_trans (Nat.le_trans l9 (unhide HG10).size) (unhide HG11).size
        · have := (unhide HO12).cells (g := w9.heap.size) rfl (l + i) _ (joined_get L p l i hi)
          rw [Addr.add_lit, Nat.zero_add] at this
          exact this
      clear HO12 HG10 HG11 HG12 SR9 hii hiz his hib HP9
      go_loopw [16] (fun i wr => ∃ k : Nat, k ≤ 9 ∧ i = .int .i64 k ∧ Last w wr g7 w9.heap.size l (newL l L p)) (fun i _ => 9 - (intOf i).toNat)
      case atStart => exact ⟨0, Nat.zero_le _, rfl, unhide HL⟩
      case round =>
        obtain ⟨k2, hk2, rfl, hlast⟩ := hrel
        have HLR := hide hlast
        by_cases hlt2 : k2 < 9
        · have kk2 : (k2 : Int) < 9 := by omega
          have d1 : wr.cell? ⟨g7, k2, none⟩ = some (.int .u8 (newL l L p k2)) := hlast.c1 k2 hlt2
          have d2 : wr.cell? ⟨w9.heap.size, l + k2, none⟩ = some (.int .u8 (newL l L p k2)) := hlast.c2 k2 hlt2
          generalize newL l L p k2 = lx at d1 d2
          clear hlast
          go_wp2
          go_quiet (fail)
          go_wp2
          go_roundw
          case rel => exact ⟨k2 + 1, by omega, by go_num, (unhide HLR).drewN _⟩
          case measure => simp [intOf]; omega
        · have kk2 : ¬ (k2 : Int) < 9 := by omega
          clear hlast
          go_wp2
          go_ret
          exact ⟨rfl, (unhide HLR).below⟩

set_option linter.unusedVariables false in
set_option maxRecDepth 100000 in
set_option maxHeartbeats 2000000 in
theorem law_zero (n : Int) (F L p : Nat → Int) (a : Option Addr) (l c : Nat) (w : World) (h0 : 0 ≤ n) (hl : l ≤ 1048576) (hl0 : l = 0) (hac : a = none → c = 0) :
    Calls Trym.prog 3 #[.int .i64 n, .agg (arr 64 (by8 F)), .agg (arr 9 (by8 L)), .slice a l c] w fun e w' => e = .returned (.bool true) ∧ Below w.heap.size w w' := by
  have hpl : l ≤ maxLen := by unfold maxLen; omega
  have z1 : decide ((1048576 : Int) < (l : Int)) = false := by simp; omega
  have z2 : decide (n < 0) = false := by simp; omega
  have HL0 := hide hl0
  clear hl0
  go_enter Trym.func3, Trym.ntmps3
  go_wp2_with (first
    | (refine wpList_box rfl 22 _ rfl 64 (by8 F) rfl ?_; intro w1 g1 h1; have H1 := hide h1; clear h1)
    | (refine wpList_box rfl 23 _ rfl 9 (by8 L) rfl ?_; intro w2 g2 h2; have H2 := hide (TwoB.mk2 (unhide H1) h2); clear h2 H1)
    | (refine wpList_load_agg rfl 22 _ rfl Trym.agg22 g1 0 rfl (by8 F) (unhide H2).b1.cells0 ?_)
    | (refine wpList_load_agg rfl 23 _ rfl Trym.agg23 g2 0 rfl (by8 L) (unhide H2).b2.cells0 ?_))
  refine (bytes8_any n F L _ l _ _ hpl).mono ?_
  rintro e w3 ⟨⟨r, rfl⟩, hb3⟩
  have H3 := hide ((unhide H2).next hb3)
  clear hb3 H2
  go_wp2_with (first
    | (go_at_call 9; refine (clone_zero a l c _ (unhide HL0) hac).mono ?_; rintro e w4 ⟨⟨pa, rfl⟩, hb4⟩; have H4 := hide ((unhide H3).next hb4); clear hb4)
    | (refine wpList_load_agg rfl 22 _ rfl Trym.agg22 g1 0 rfl (by8 F) (unhide H4).b1.cells0 ?_)
    | (refine wpList_load_agg rfl 23 _ rfl Trym.agg23 g2 0 rfl (by8 L) (unhide H4).b2.cells0 ?_))
  · go_ret
    exact ⟨rfl, (unhide H3).below⟩
  refine (zz10 n F L p l _ w4 h0 hl (fun g _ => .inl (unhide HL0))).mono ?_
  rintro e w5 ⟨rfl, hb5⟩
  have H5 := hide ((unhide H4).next hb5)
  clear hb5 H4 H3
  go_wp2_with (first
    | (refine wpList_new rfl 22 rfl 64 Trym.zero22 ?_; intro w6 g6 v6 h6; have H6 := hide h6; clear h6)
    | (refine wpList_new rfl 23 rfl 9 Trym.zero23 ?_; intro w7 g7 v7 h7; have H7 := hide h7; clear h7)
    | (refine wpList_store_agg rfl 22 _ _ rfl Trym.agg22 g6 0 64 (by8 (newF n l F p)) v6 rfl rfl ((unhide H7).old (unhide H6).blk) (by omega) (ones_by8 _ _) ?_; intro w8 hb8 hbut8; have HB8 := hide hb8; have HBUT8 := hide hbut8; clear hb8 hbut8)
    | (refine wpList_store_agg rfl 23 _ _ rfl Trym.agg23 g7 0 9 (by8 (newL l L p)) v7 rfl rfl ((unhide HBUT8).blk ((unhide H7).ne (unhide H6).blk).symm (unhide H7).blk) (by omega) (ones_by8 _ _) ?_; intro w9 hb9 hbut9; have HB9 := hide hb9; have HBUT9 := hide hbut9; clear hb9 hbut9))
  have SR9 : Hid (SR w w9 g1 g2 g6 g7 F L (newF n l F p) (newL l L p)) := by
    have t7 := ((unhide H5).next (unhide H6).below).next (unhide H7).below
    have a6 := (unhide H6).at_; have a7 := (unhide H7).at_; have s6 := (unhide H6).size
    have l1 := (unhide H5).b1.lt; have l2 := (unhide H5).b2.lt; have l0 := (unhide H5).below.size
    have t8 := t7.but (unhide HBUT8) (.inr ⟨by omega, by omega, by omega⟩)
    have t9 := t8.but (unhide HBUT9) (.inr ⟨by omega, by omega, by omega⟩)
    exact ⟨t9, (unhide HBUT9).blk (by omega) ((unhide HB8).congr (fun j hj => put_all 64 _ _ j hj)), (unhide HB9).congr (fun j hj => put_all 9 _ _ j hj)⟩
  clear HB8 HB9 HBUT8 HBUT9 H6 H7 H5 
  go_wp2
  go_loop [12] (fun i => ∃ k : Nat, k ≤ 64 ∧ i = .int .i64 k) (fun i => 64 - (intOf i).toNat)
  case atStart => exact ⟨0, Nat.zero_le _, rfl⟩
  case round =>
    obtain ⟨k, hk, rfl⟩ := hrel
    by_cases hlt : k < 64
    · have kk : (k : Int) < 64 := by omega
      have c1 : w9.cell? ⟨g1, k, none⟩ = some (.int .u8 (F k)) := (unhide SR9).two.b1.cell k hlt
      have c2 : w9.cell? ⟨g6, k, none⟩ = some (.int .u8 (newF n l F p k)) := (unhide SR9).b6.cell k hlt
      have hF : newF n l F p k = F k := by have := unhide HL0; unfold newF; rw [if_neg (by omega)]
      rw [hF] at c2
      clear hF
      generalize F k = fx at c1 c2
      by_cases hin : n ≤ (k : Int)
      · have hin2 : ¬ (k : Int) - n < (l : Int) := by have := unhide HL0; omega
        go_wp2
        go_round
        case rel => exact ⟨k + 1, by omega, by go_num⟩
        case measure => simp [intOf]; omega
      · go_wp2
        go_round
        case rel => exact ⟨k + 1, by omega, by go_num⟩
        case measure => simp [intOf]; omega
    · have kk : ¬ (k : Int) < 64 := by omega
      obtain ⟨ii, hii, hiz, his, hib⟩ := Trym.infoP5
      have hsl := fun wx => sliceAt_all 23 5 9 Trym.underlying23 Trym.size5 g2 0 wx
      have hsf := fun wx => fun gg => sliceAt_slice_from 24 5 Trym.underlying24 Trym.size5 gg 0 l (9 + l) (l : Int) rfl (by omega) wx
      have hsf2 := fun wx => fun gg => slice_from 24 5 Trym.underlying24 Trym.size5 gg 0 l (9 + l) (l : Int) rfl (by omega) wx
      go_wp2_with (first
        | (at_make; refine wpList_make_own _ rfl _ _ 24 rfl w9.heap.size 5 ii (.int .u8 0) 1 Trym.underlying24 hii hiz his .i64 .i64 (9 + (l : Int)) (9 + l) rfl rfl (by omega) (by rw [hib]; omega) (by unfold maxLen; omega) (Nat.le_refl _) ?_; intro w10 hown10 hgr10; have HO10 := hide hown10; have HG10 := hide hgr10; clear hown10 hgr10)
        | (at_builtin; refine wpList_append_fits _ rfl _ _ 24 rfl w9.heap.size 5 ii 1 Trym.underlying24 hii his w9.heap.size 0 (9 + l) [] rfl (unhide HO10) ⟨g2, 0, none⟩ 9 9 ((List.range 9).map (by8 L)) rfl (by simp) (grown_blk (unhide HG10) (unhide SR9).two.b2 (by simp)).news (by8_list_one 9 L) (by omega) ?_; intro w11 hown11 hgr11; have HO11 := hide hown11; have HG11 := hide hgr11; clear hown11 hgr11 HO10)
        | (at_builtin; refine wpList_append_fits_any _ rfl _ _ 24 rfl w9.heap.size 5 ii 1 Trym.underlying24 hii his w9.heap.size (0 + 9) (9 + l) ([] ++ (List.range 9).map (by8 L)) rfl (unhide HO11) pa l l ((List.range l).map (by8 p)) rfl (by simp) (fun _ => ⟨unhide HL0, unhide HL0⟩) (fun ad _ j u hu => absurd (range_get hu).1 (by rw [unhide HL0]; omega)) (by8_list_one l p) (by omega) ?_; intro w12 hown12 hgr12; have HO12 := hide hown12; have HG12 := hide hgr12; clear hown12 hgr12 HO11))
      have HL : Hid (Last w w12 g7 w9.heap.size l (newL l L p)) := by
        have g7lt := (unhide SR9).b7.lt
        have q7 := grown_blk (unhide HG12) (grown_blk (unhide HG11) (grown_blk (unhide HG10) (unhide SR9).b7 (by simp)) (by simp; omega)) (by simp; omega)
        have l9 := (unhide SR9).two.below.size
        refine ⟨?_, fun i hi => q7.cell i hi, fun i hi => ?_⟩
        · refine (((unhide SR9).two.below.grown (unhide HG10) l9 (by simp)).grown (unhide HG11) ?_ (by simp; omega)).grown (unhide HG12) ?_ (by simp; omega)
          · exact Nat.le_trans l9 (unhide HG10).size
          · exact Nat.le_trans (Nat.le_trans l9 (unhide HG10).size) (unhide HG11).size
        · have := (unhide HO12).cells (g := w9.heap.size) rfl (l + i) _ (joined_get L p l i hi)
          rw [Addr.add_lit, Nat.zero_add] at this
          exact this
      clear HO12 HG10 HG11 HG12 SR9 hii hiz his hib 
      go_loopw [16] (fun i wr => ∃ k : Nat, k ≤ 9 ∧ i = .int .i64 k ∧ Last w wr g7 w9.heap.size l (newL l L p)) (fun i _ => 9 - (intOf i).toNat)
      case atStart => exact ⟨0, Nat.zero_le _, rfl, unhide HL⟩
      case round =>
        obtain ⟨k2, hk2, rfl, hlast⟩ := hrel
        have HLR := hide hlast
        by_cases hlt2 : k2 < 9
        · have kk2 : (k2 : Int) < 9 := by omega
          have d1 : wr.cell? ⟨g7, k2, none⟩ = some (.int .u8 (newL l L p k2)) := hlast.c1 k2 hlt2
          have d2 : wr.cell? ⟨w9.heap.size, l + k2, none⟩ = some (.int .u8 (newL l L p k2)) := hlast.c2 k2 hlt2
          generalize newL l L p k2 = lx at d1 d2
          clear hlast
          go_wp2
          go_quiet (fail)
          go_wp2
          go_roundw
          case rel => exact ⟨k2 + 1, by omega, by go_num, (unhide HLR).drewN _⟩
          case measure => simp [intOf]; omega
        · have kk2 : ¬ (k2 : Int) < 9 := by omega
          clear hlast
          go_wp2
          go_ret
          exact ⟨rfl, (unhide HLR).below⟩
end Go.Proofs.Qxb6602878aMods
