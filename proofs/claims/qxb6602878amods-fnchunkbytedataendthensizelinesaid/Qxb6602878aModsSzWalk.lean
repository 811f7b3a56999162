/- Seat b6602878aM: zzSizeLinePB1 walked. -/
import Derived.Test.Qxb6602878aModsSize
namespace Go.Proofs.Qxb6602878aMods
open Go.RowKit

set_option linter.unusedVariables false in
set_option maxHeartbeats 8000000 in
set_option maxRecDepth 8000 in
theorem sizeLine_any (b off L c : Nat) (p : Nat → Int) (w : World) (hL : L ≤ 1048576) (hp : ∀ i, 0 ≤ p i ∧ p i < 256) (hc : ∀ i, i < L → w.cell? ⟨b, off + i, none⟩ = some (.int .u8 (p i))) :
    Calls Trym.prog 22 #[.slice (some ⟨b, off, none⟩) L c] w fun r w' => SizeSaid p L r ∧ w' = w := by
  have HC := hide hc
  have HP := hide hp
  clear hc hp
  go_enter Trym.func22, Trym.ntmps22
  go_wp2
  go_loop [6, 7] (fun i u => ∃ (h : Nat) (val : Int), i = .int .i64 h ∧ u = .int .u64 val ∧ InHex p L h val) (fun i _ => L - (intOf i).toNat)
  case atStart => exact ⟨0, 0, rfl, rfl, inHex_start p L⟩
  case round =>
    obtain ⟨h, val, rfl, rfl, hin⟩ := hrel
    have HIN := hide hin
    have hle := hin.le
    have hle16 := hin.le16
    have hv0 := hin.v0
    by_cases hlt : h < L
    · have hch := (unhide HC) h hlt
      have hpb := (unhide HP) h
      cases hx : hexv (p h) with
      | some d =>
        have hd := hexv_bd hx
        have HX := hide hx
        by_cases h16 : h = 16
        · subst h16
          clear hin hx
          go_wp2_with (first
            | (go_at_call 28
               refine (hexValue_any _ w hpb.1 hpb.2).mono ?_
               rintro e w' ⟨he, hw⟩
               unfold HexSaid at he
               rw [unhide HX] at he
               obtain rfl := he
               obtain rfl := hw.symm
               simp only [Option.getD_some, Option.isSome_some]))
          refine bodyPost_ret (results_tmp4 rfl _ _ _) rfl ?_
          exact ⟨⟨_, _, _, _, rfl, (unhide HIN).full hlt (unhide HX)⟩, rfl⟩
        · have hsm := hin.small (by omega)
          have d16 : decide ((h : Int) = 16) = false := decide_eq_false (by omega)
          clear hin hx
          go_wp2_with (first
            | (go_at_call 28
               refine (hexValue_any _ w hpb.1 hpb.2).mono ?_
               rintro e w' ⟨he, hw⟩
               unfold HexSaid at he
               rw [unhide HX] at he
               obtain rfl := he
               obtain rfl := hw.symm
               simp only [Option.getD_some, Option.isSome_some]))
          go_round
          case rel => exact ⟨h + 1, _, by go_num, rfl, (unhide HIN).next (by omega) hlt (unhide HX)⟩
          case measure => simp [intOf]; omega
      | none =>
        have HX := hide hx
        have dL : decide ((h : Int) = (L : Int)) = false := decide_eq_false (by omega)
        by_cases h0 : h = 0
        · subst h0
          have dz : decide ((0 : Int) = (L : Int)) = false := decide_eq_false (by omega)
          have ez : ((0 : Int) == (L : Int)) = false := beq_eq_false_iff_ne.2 (by omega)
          rw [Nat.add_zero] at hch
          clear hin hx dL
          go_wp2_with (first
            | (go_at_call 28
               refine (hexValue_any _ w hpb.1 hpb.2).mono ?_
               rintro e w' ⟨he, hw⟩
               unfold HexSaid at he
               rw [unhide HX] at he
               obtain rfl := he
               obtain rfl := hw.symm
               simp only [Option.getD_none, Option.isSome_none]))
          refine bodyPost_ret (results_tmp4 rfl _ _ _) rfl ?_
          exact ⟨⟨_, _, _, _, rfl, (unhide HIN).none0 hlt (unhide HX)⟩, rfl⟩
        · have d0 : decide ((h : Int) = 0) = false := decide_eq_false (by omega)
          have i0 : ¬ (h : Int) = 0 := by omega
          by_cases h59 : p h = 59
          · have HS := hide (hin.sep hlt h0 hx 5 (.inl ⟨h59, rfl⟩))
            rw [h59] at hch hpb hx
            have HX := hide hx
            clear hin hx h59
            go_wp2_with (first
              | (go_at_call 28
                 refine (hexValue_any _ w hpb.1 hpb.2).mono ?_
                 rintro e w' ⟨he, hw⟩
                 unfold HexSaid at he
                 rw [unhide HX] at he
                 obtain rfl := he
                 obtain rfl := hw.symm
                 simp only [Option.getD_none, Option.isSome_none]))
            go_loop [10] (fun i => ∃ q : Nat, i = .int .i64 q ∧ InSt p L q h 5 val) (fun i => L - (intOf i).toNat)
            case atStart => exact ⟨h + 1, by go_num, unhide HS⟩
            case round =>
              obtain ⟨q, rfl, hst⟩ := hrel
              have HST := hide hst
              have hqle := hst.le
              clear hst
              by_cases hql : q < L
              · have hcq := (unhide HC) q hql
                by_cases h13 : p q = 13
                · have HCR := hide ((unhide HST).cr (.inr rfl) hql h13)
                  rw [h13] at hcq
                  clear h13
                  by_cases hend : q + 1 = L
                  · subst hend
                    go_wp2
                    refine bodyPost_ret (results_tmp4 rfl _ _ _) rfl ?_
                    exact ⟨⟨_, _, _, _, rfl, (unhide HCR).ends (by simp)⟩, rfl⟩
                  · have hq1 : q + 1 < L := by have := (unhide HCR).le; omega
                    have hcq := (unhide HC) (q + 1) hq1
                    have dend : decide (((q : Nat) : Int) + 1 = (L : Int)) = false := decide_eq_false (by omega)
                    by_cases h10 : p (q + 1) = 10
                    · rw [h10] at hcq
                      have H10 := hide h10
                      clear h10
                      go_wp2
                      refine bodyPost_ret (results_tmp4 rfl _ _ _) rfl ?_
                      refine ⟨⟨_, _, _, _, rfl, ?_⟩, rfl⟩
                      have := (unhide HCR).lf hq1 (unhide H10)
                      rw [show (((q : Nat) : Int) + 2) = (((q + 1 : Nat)) : Int) + 1 by omega]
                      exact this
                    · have d10 : decide (p (q + 1) = 10) = false := decide_eq_false h10
                      have e10 : (p (q + 1) == 10) = false := beq_eq_false_iff_ne.2 h10
                      have n10 : (p (q + 1) != 10) = true := by simp [h10]
                      have H10 := hide h10
                      clear h10
                      go_wp2
                      refine bodyPost_ret (results_tmp4 rfl _ _ _) rfl ?_
                      refine ⟨⟨_, _, _, _, rfl, ?_⟩, rfl⟩
                      have := (unhide HCR).lfBad hq1 (unhide H10)
                      rw [show (((q : Nat) : Int) + 2) = (((q + 1 : Nat)) : Int) + 1 by omega]
                      exact this
                · have d13 : decide (p q = 13) = false := decide_eq_false h13
                  have e13 : (p q == 13) = false := beq_eq_false_iff_ne.2 h13
                  have n13 : (p q != 13) = true := by simp [h13]
                  by_cases h10 : p q = 10
                  · have HBAD := hide ((unhide HST).extBad hql h10)
                    rw [h10] at hcq
                    clear h10 d13 e13
                    go_wp2
                    refine bodyPost_ret (results_tmp4 rfl _ _ _) rfl ?_
                    exact ⟨⟨_, _, _, _, rfl, unhide HBAD⟩, rfl⟩
                  · have d10 : decide (p q = 10) = false := decide_eq_false h10
                    have e10 : (p q == 10) = false := beq_eq_false_iff_ne.2 h10
                    have n10 : (p q != 10) = true := by simp [h10]
                    have HEX := hide ((unhide HST).ext hql h13 h10)
                    go_wp2
                    go_round
                    case rel => exact ⟨q + 1, by go_num, unhide HEX⟩
                    case measure => simp [intOf]; omega
              · obtain rfl : q = L := by omega
                go_wp2
                refine bodyPost_ret (results_tmp4 rfl _ _ _) rfl ?_
                exact ⟨⟨_, _, _, _, rfl, (unhide HST).ends (by simp)⟩, rfl⟩
          · have d59 : decide (p h = 59) = false := decide_eq_false h59
            have e59 : (p h == 59) = false := beq_eq_false_iff_ne.2 h59
            by_cases hsp : p h = 32 ∨ p h = 9
            · have HS := hide (hin.sep hlt h0 hx 4 (.inr (.inl ⟨hsp, rfl⟩)))
              rcases hsp with hsp | hsp
              all_goals
                rw [hsp] at hch hpb hx
                have HX := hide hx
                clear hin hx hsp d59 e59 h59
                go_wp2_with (first
                  | (go_at_call 28
                     refine (hexValue_any _ w hpb.1 hpb.2).mono ?_
                     rintro e w' ⟨he, hw⟩
                     unfold HexSaid at he
                     rw [unhide HX] at he
                     obtain rfl := he
                     obtain rfl := hw.symm
                     simp only [Option.getD_none, Option.isSome_none]))
                go_loop [10] (fun i => ∃ q : Nat, i = .int .i64 q ∧ InSt p L q h 4 val) (fun i => L - (intOf i).toNat)
                case atStart => exact ⟨h + 1, by go_num, unhide HS⟩
                case round =>
                  obtain ⟨q, rfl, hst⟩ := hrel
                  have HST := hide hst
                  have hqle := hst.le
                  clear hst
                  by_cases hql : q < L
                  · have hcq := (unhide HC) q hql
                    by_cases h32 : p q = 32
                    · have HEX := hide ((unhide HST).space hql (.inl h32))
                      rw [h32] at hcq
                      clear h32
                      go_wp2
                      go_round
                      case rel => exact ⟨q + 1, by go_num, unhide HEX⟩
                      case measure => simp [intOf]; omega
                    · have d32 : decide (p q = 32) = false := decide_eq_false h32
                      have e32 : (p q == 32) = false := beq_eq_false_iff_ne.2 h32
                      by_cases h9 : p q = 9
                      · have HEX := hide ((unhide HST).space hql (.inr h9))
                        rw [h9] at hcq
                        clear h9 d32 e32
                        go_wp2
                        go_round
                        case rel => exact ⟨q + 1, by go_num, unhide HEX⟩
                        case measure => simp [intOf]; omega
                      · have d9 : decide (p q = 9) = false := decide_eq_false h9
                        have e9 : (p q == 9) = false := beq_eq_false_iff_ne.2 h9
                        have eqL : ((q : Int) == (L : Int)) = false := beq_eq_false_iff_ne.2 (by omega)
                        by_cases h13 : p q = 13
                        · have HCR := hide ((unhide HST).cr (.inl rfl) hql h13)
                          rw [h13] at hcq
                          clear h13 d32 e32 d9 e9
                          by_cases hend : q + 1 = L
                          · subst hend
                            go_wp2
                            refine bodyPost_ret (results_tmp4 rfl _ _ _) rfl ?_
                            exact ⟨⟨_, _, _, _, rfl, (unhide HCR).ends (by simp)⟩, rfl⟩
                          · have hq1 : q + 1 < L := by have := (unhide HCR).le; omega
                            have hcq := (unhide HC) (q + 1) hq1
                            have dend : decide (((q : Nat) : Int) + 1 = (L : Int)) = false := decide_eq_false (by omega)
                            by_cases h10 : p (q + 1) = 10
                            · rw [h10] at hcq
                              have H10 := hide h10
                              clear h10
                              go_wp2
                              refine bodyPost_ret (results_tmp4 rfl _ _ _) rfl ?_
                              refine ⟨⟨_, _, _, _, rfl, ?_⟩, rfl⟩
                              have := (unhide HCR).lf hq1 (unhide H10)
                              rw [show (((q : Nat) : Int) + 2) = (((q + 1 : Nat)) : Int) + 1 by omega]
                              exact this
                            · have d10 : decide (p (q + 1) = 10) = false := decide_eq_false h10
                              have e10 : (p (q + 1) == 10) = false := beq_eq_false_iff_ne.2 h10
                              have n10 : (p (q + 1) != 10) = true := by simp [h10]
                              have H10 := hide h10
                              clear h10
                              go_wp2
                              refine bodyPost_ret (results_tmp4 rfl _ _ _) rfl ?_
                              refine ⟨⟨_, _, _, _, rfl, ?_⟩, rfl⟩
                              have := (unhide HCR).lfBad hq1 (unhide H10)
                              rw [show (((q : Nat) : Int) + 2) = (((q + 1 : Nat)) : Int) + 1 by omega]
                              exact this
                        · have d13 : decide (p q = 13) = false := decide_eq_false h13
                          have e13 : (p q == 13) = false := beq_eq_false_iff_ne.2 h13
                          have n13 : (p q != 13) = true := by simp [h13]
                          have HBAD := hide ((unhide HST).spaceBad hql h32 h9 h13)
                          go_wp2
                          refine bodyPost_ret (results_tmp4 rfl _ _ _) rfl ?_
                          exact ⟨⟨_, _, _, _, rfl, unhide HBAD⟩, rfl⟩
                  · obtain rfl : q = L := by omega
                    go_wp2
                    refine bodyPost_ret (results_tmp4 rfl _ _ _) rfl ?_
                    exact ⟨⟨_, _, _, _, rfl, (unhide HST).ends (by simp)⟩, rfl⟩
            · have h32 : p h ≠ 32 := fun e => hsp (.inl e)
              have h9 : p h ≠ 9 := fun e => hsp (.inr e)
              have d32 : decide (p h = 32) = false := decide_eq_false h32
              have e32 : (p h == 32) = false := beq_eq_false_iff_ne.2 h32
              have d9 : decide (p h = 9) = false := decide_eq_false h9
              have e9 : (p h == 9) = false := beq_eq_false_iff_ne.2 h9
              by_cases h13 : p h = 13
              · have HCR := hide (hin.sep hlt h0 hx 6 (.inr (.inr ⟨h13, rfl⟩)))
                rw [h13] at hch hpb hx
                have HX := hide hx
                have ehL : ((h : Int) == (L : Int)) = false := beq_eq_false_iff_ne.2 (by omega)
                have eh0 : ((h : Int) == 0) = false := beq_eq_false_iff_ne.2 (by omega)
                clear hin hx h13 hsp h59 h32 h9 d59 e59 d32 e32 d9 e9
                by_cases hend : h + 1 = L
                · subst hend
                  go_wp2_with (first
                    | (go_at_call 28
                       refine (hexValue_any _ w hpb.1 hpb.2).mono ?_
                       rintro e w' ⟨he, hw⟩
                       unfold HexSaid at he
                       rw [unhide HX] at he
                       obtain rfl := he
                       obtain rfl := hw.symm
                       simp only [Option.getD_none, Option.isSome_none]))
                  refine bodyPost_ret (results_tmp4 rfl _ _ _) rfl ?_
                  exact ⟨⟨_, _, _, _, rfl, (unhide HCR).ends (by simp)⟩, rfl⟩
                · have hq1 : h + 1 < L := by have := (unhide HCR).le; omega
                  have hcq := (unhide HC) (h + 1) hq1
                  have dend : decide (((h : Nat) : Int) + 1 = (L : Int)) = false := decide_eq_false (by omega)
                  by_cases h10 : p (h + 1) = 10
                  · rw [h10] at hcq
                    have H10 := hide h10
                    clear h10
                    go_wp2_with (first
                      | (go_at_call 28
                         refine (hexValue_any _ w hpb.1 hpb.2).mono ?_
                         rintro e w' ⟨he, hw⟩
                         unfold HexSaid at he
                         rw [unhide HX] at he
                         obtain rfl := he
                         obtain rfl := hw.symm
                         simp only [Option.getD_none, Option.isSome_none]))
                    refine bodyPost_ret (results_tmp4 rfl _ _ _) rfl ?_
                    refine ⟨⟨_, _, _, _, rfl, ?_⟩, rfl⟩
                    have := (unhide HCR).lf hq1 (unhide H10)
                    rw [show (((h : Nat) : Int) + 2) = (((h + 1 : Nat)) : Int) + 1 by omega]
                    exact this
                  · have d10 : decide (p (h + 1) = 10) = false := decide_eq_false h10
                    have e10 : (p (h + 1) == 10) = false := beq_eq_false_iff_ne.2 h10
                    have n10 : (p (h + 1) != 10) = true := by simp [h10]
                    have H10 := hide h10
                    clear h10
                    go_wp2_with (first
                      | (go_at_call 28
                         refine (hexValue_any _ w hpb.1 hpb.2).mono ?_
                         rintro e w' ⟨he, hw⟩
                         unfold HexSaid at he
                         rw [unhide HX] at he
                         obtain rfl := he
                         obtain rfl := hw.symm
                         simp only [Option.getD_none, Option.isSome_none]))
                    refine bodyPost_ret (results_tmp4 rfl _ _ _) rfl ?_
                    refine ⟨⟨_, _, _, _, rfl, ?_⟩, rfl⟩
                    have := (unhide HCR).lfBad hq1 (unhide H10)
                    rw [show (((h : Nat) : Int) + 2) = (((h + 1 : Nat)) : Int) + 1 by omega]
                    exact this
              · have d13 : decide (p h = 13) = false := decide_eq_false h13
                have e13 : (p h == 13) = false := beq_eq_false_iff_ne.2 h13
                have HBAD := hide (hin.bad hlt h0 hx h59 h32 h9 h13)
                clear hin hx hsp
                go_wp2_with (first
                  | (go_at_call 28
                     refine (hexValue_any _ w hpb.1 hpb.2).mono ?_
                     rintro e w' ⟨he, hw⟩
                     unfold HexSaid at he
                     rw [unhide HX] at he
                     obtain rfl := he
                     obtain rfl := hw.symm
                     simp only [Option.getD_none, Option.isSome_none]))
                refine bodyPost_ret (results_tmp4 rfl _ _ _) rfl ?_
                exact ⟨⟨_, _, _, _, rfl, unhide HBAD⟩, rfl⟩
    · obtain rfl : h = L := by omega
      clear hin
      go_wp2
      refine bodyPost_ret (results_tmp4 rfl _ _ _) rfl ?_
      exact ⟨⟨_, _, _, _, rfl, (unhide HIN).ends⟩, rfl⟩
end Go.Proofs.Qxb6602878aMods
