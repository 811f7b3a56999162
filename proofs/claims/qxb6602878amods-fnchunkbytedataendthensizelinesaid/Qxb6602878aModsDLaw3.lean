/- Seat b6602878aM: the law FnChunkByteDataEndThenSizeLine: its main walk. -/
import Derived.Test.Qxb6602878aModsVerd
import Derived.Deep.CutBlock
import Derived.Deep.CutRange
namespace Go.Proofs.Qxb6602878aMods
open Go.RowKit

set_option linter.unusedVariables false in
set_option maxHeartbeats 8000000 in
set_option maxRecDepth 8000 in
theorem dlaw_main (v : Nat → Value) (left dig : Int) (ha : Option Addr) (hl hc : Nat) (e : Nat → Int) (a : Option Addr) (l c : Nat) (p : Nat → Int) (w : World) (hT : TypV v) (h4 : Four v false 8 left dig ha hl hc) (h1 : hl ≤ 65536) (h2 : l ≤ 524288)
    (hI : HasI w ha hl hc e) (hB : HasB w a l c p) (hp : ∀ i, 0 ≤ p i ∧ p i < 256) :
    Calls Trym.prog 7 #[.agg (arr 90 v), .slice a l c] w (DSaid w) := by
  have HH := hide (fun wx => bytes21_any v ha hl hc a l c wx h4.c87 (by unfold maxLen; omega) (by unfold maxLen; omega))
  have HF := hide h4
  have HT := hide hT
  have HI := hide hI
  have HBY := hide hB
  have HP := hide hp
  clear h4 hT hI hB hp
  go_enter Trym.func7, Trym.ntmps7
  go_upto_block 0 with (first
    | (refine wpList_box rfl 34 _ rfl 90 v rfl ?_; intro w1 g1 hn; have H1 := hide hn; clear hn)
    | (refine wpList_load_agg rfl 34 _ rfl Trym.agg34 g1 0 rfl v (unhide H1).blk.cells0 ?_)
    | (go_at_call 21
       refine ((unhide HH) w1).mono ?_
       rintro e1 w2 ⟨y, rfl, _, hb2⟩
       have hblk2 := below_blk hb2 (unhide H1).blk.lt (unhide H1).blk
       have c87 : w2.cell? ⟨g1, 87, none⟩ = some (.slice ha hl hc) := (hblk2.cell 87 (by omega)).trans (congrArg some (unhide HF).c87)
       have c0 : w2.cell? ⟨g1, 0, none⟩ = some (.bool false) := (hblk2.cell 0 (by omega)).trans (congrArg some (unhide HF).c0)
       have c2 : w2.cell? ⟨g1, 2, none⟩ = some (.int .i64 8) := (hblk2.cell 2 (by omega)).trans (congrArg some (unhide HF).c2)
       have HK2 := hide hblk2
       have HB2 := hide ((unhide H1).below.trans (hb2.mono (unhide H1).below.size))
       clear hb2 hblk2
       cases y)
    | (go_at_call 15
       refine (cloneI_any ha hl hc e w2 (by omega) ((unhide HI).next (unhide HB2))).mono ?_
       rintro r w3 ⟨x, rfl, a1, rfl, hn1, hi1, hb3, hfar⟩
       have HK3 := hide (below_blk hb3 (unhide HK2).lt (unhide HK2))
       have HI1 := hide hi1
       have HN1 := hide hn1
       have HB3 := hide ((unhide HB2).trans (hb3.mono (unhide HB2).size))
       have HFAR : Hid (∀ x, a1 = some x → x.block ≠ g1) := far_ne (unhide HK2).lt hfar
       clear hi1 hn1 hb3 hfar)
    | (refine wpList_store1 rfl 32 _ _ rfl Trym.size1_32 g1 87 90 v rfl (.slice a1 hl hl) rfl (one_slice _ _ _) (unhide HK3) (by omega) ?_
       intro w3b hb hbut
       have HK3b := hide (hb.congr (v' := setV v 87 (.slice a1 hl hl)) (fun j _ => put_setV v 87 _ j))
       have HT3b := hide hbut
       have HB3b := hide (hbut.below' (unhide HB3) (Nat.le_of_eq (unhide H1).at_.symm))
       have HI1b : Hid (HasI w3b a1 hl hl e) := HasI.but (unhide HI1) hbut (unhide HFAR)
       clear hb hbut)
    | (go_at_call 9
       refine (cloneB_any a l c p w3b (by omega) ((unhide HBY).next (unhide HB3b))).mono ?_
       rintro r w3c ⟨a', rfl, hsrc, hb3c⟩
       have HSRC := hide hsrc
       have HB3c := hide hb3c
       clear hsrc hb3c)
    | (go_at_call 16
       refine (in_any g1 (setV v 87 (.slice a1 hl hl)) a1 hl hl e w3c ((unhide HT).setH _ _ _).one (below_blk (unhide HB3c) (unhide HK3b).lt (unhide HK3b)) rfl (by omega) ((unhide HI1b).next (unhide HB3c))).mono ?_
       rintro r w4 ⟨a2, rfl, hn2, hi2, hb4⟩
       rw [setV_setV]
       have HPR : Hid (Prep w w4 v g1 a1 a2 hl e a' l p) := prep_mk (unhide HB3b) (unhide HB3c) hb4 (unhide HK3b) (unhide HI1b) hi2 hn2 (unhide HSRC)
       clear hn2 hi2 hb4)
    | (refine wpList_new rfl 39 rfl 90 Trym.zero39 ?_; intro w5 gz vz0 hz; have HZ := hide hz; clear hz)
    | (refine wpList_store_agg rfl 39 _ _ rfl Trym.agg39 gz 0 90 (setV v 87 (.slice a2 hl hl)) vz0 rfl rfl (unhide HZ).blk (by omega) ((unhide HT).setH _ _ _).one.ones ?_
       intro w6 hb6 hbut6
       have HZ6 := hide (hb6.congr (v' := frS (setV v 87 (.slice a2 hl hl)) (rd (s8 left dig) p 0)) (fun j hj => (put_all 90 _ _ j hj).trans ((unhide HF).fr a2 hl hl j)))
       have HB6 : Hid (Below w4.heap.size w4 w6) := hbut6.below' (unhide HZ).below (Nat.le_of_eq (unhide HZ).at_.symm)
       clear hb6 hbut6))
  · go_wp2
    go_ret
    exact ⟨rfl, unhide HB2⟩
  · clear c87 c0 c2
    go_cut [6] from 37 (fun u wc => ∃ n : Nat, u = .int .i64 n ∧ Ended (s8 left dig) p l n ∧ Below w4.heap.size w4 wc ∧ Blk wc gz 90 (frS (setV v 87 (.slice a2 hl hl)) (rd (s8 left dig) p n)))
    case first =>
      go_wp2_with fail
      go_loopw [6] (fun i wr => ∃ n : Nat, n ≤ l ∧ i = .int .i64 n ∧ (∀ i, i ≤ n → ¬ Stop (rd (s8 left dig) p i)) ∧ Below w4.heap.size w4 wr ∧ Blk wr gz 90 (frS (setV v 87 (.slice a2 hl hl)) (rd (s8 left dig) p n))) (fun i _ => l - (intOf i).toNat)
      case atStart =>
        refine ⟨0, Nat.zero_le _, rfl, fun i hi => ?_, unhide HB6, unhide HZ6⟩
        obtain rfl : i = 0 := by omega
        exact go_s8 left dig
      case round =>
        obtain ⟨n, hnl, rfl, hgo, hbe, hblk⟩ := hrel
        have HGO := hide hgo
        have HBE := hide hbe
        have HBK := hide hblk
        clear hgo hbe hblk
        by_cases hlt : n < l
        · obtain ⟨gs, ea, hgs, hsrc⟩ := ((unhide HPR).next (unhide HBE)).src.resolve_left (by omega)
          subst ea
          have hcn : wr.cell? ⟨gs, n, none⟩ = some (.int .u8 (p n)) := hsrc.cell n hlt
          clear hsrc hgs
          obtain ⟨am, st, lf, dg, hs⟩ : ∃ am st lf dg, rd (s8 left dig) p (n + 1) = ⟨am, st, lf, dg⟩ := ⟨_, _, _, _, rfl⟩
          have HS := hide hs
          clear hs
          cases am with
          | true =>
            go_wp2_with (first
              | (go_at_call 17
                 refine (byte_any gz (setV v 87 (.slice a2 hl hl)) (rd (s8 left dig) p n) (p n) wr ((unhide HT).setH _ _ _).one (unhide HBK) (fine_rd (fine_s8 _ _) n (unhide HGO)).good ((unhide HP) n).1 ((unhide HP) n).2).mono ?_
                 rintro r w7 ⟨rfl, hb7, hk7⟩
                 have hb8 : Blk w7 gz 90 (frS (setV v 87 (.slice a2 hl hl)) ⟨true, st, lf, dg⟩) := by rw [← unhide HS]; exact hb7
                 obtain ⟨c0, c2, _, _⟩ := z_cells hb8
                 have HK7 : Hid (Blk w7 gz 90 (frS (setV v 87 (.slice a2 hl hl)) (rd (s8 left dig) p (n + 1)))) := hb7
                 have HB7 : Hid (Below w4.heap.size w4 w7) := (unhide HBE).trans (hk7.below _ (Nat.le_of_eq (unhide HZ).at_.symm) (unhide HBE).size)
                 clear hb7 hb8 hk7))
            go_meet
            case rel => exact ⟨n + 1, by go_num, ⟨hlt, fun i hi => (unhide HGO) i (by omega), .inr (by rw [unhide HS]; exact .inl rfl)⟩, unhide HB7, unhide HK7⟩
          | false =>
            by_cases h7 : st = 7
            · subst h7
              go_wp2_with (first
                | (go_at_call 17
                   refine (byte_any gz (setV v 87 (.slice a2 hl hl)) (rd (s8 left dig) p n) (p n) wr ((unhide HT).setH _ _ _).one (unhide HBK) (fine_rd (fine_s8 _ _) n (unhide HGO)).good ((unhide HP) n).1 ((unhide HP) n).2).mono ?_
                   rintro r w7 ⟨rfl, hb7, hk7⟩
                   have hb8 : Blk w7 gz 90 (frS (setV v 87 (.slice a2 hl hl)) ⟨false, 7, lf, dg⟩) := by rw [← unhide HS]; exact hb7
                   obtain ⟨c0, c2, _, _⟩ := z_cells hb8
                   have HK7 : Hid (Blk w7 gz 90 (frS (setV v 87 (.slice a2 hl hl)) (rd (s8 left dig) p (n + 1)))) := hb7
                   have HB7 : Hid (Below w4.heap.size w4 w7) := (unhide HBE).trans (hk7.below _ (Nat.le_of_eq (unhide HZ).at_.symm) (unhide HBE).size)
                   clear hb7 hb8 hk7))
              go_meet
              case rel => exact ⟨n + 1, by go_num, ⟨hlt, fun i hi => (unhide HGO) i (by omega), .inr (by rw [unhide HS]; exact .inr (.inl rfl))⟩, unhide HB7, unhide HK7⟩
            · by_cases h10 : st = 10
              · subst h10
                go_wp2_with (first
                  | (go_at_call 17
                     refine (byte_any gz (setV v 87 (.slice a2 hl hl)) (rd (s8 left dig) p n) (p n) wr ((unhide HT).setH _ _ _).one (unhide HBK) (fine_rd (fine_s8 _ _) n (unhide HGO)).good ((unhide HP) n).1 ((unhide HP) n).2).mono ?_
                     rintro r w7 ⟨rfl, hb7, hk7⟩
                     have hb8 : Blk w7 gz 90 (frS (setV v 87 (.slice a2 hl hl)) ⟨false, 10, lf, dg⟩) := by rw [← unhide HS]; exact hb7
                     obtain ⟨c0, c2, _, _⟩ := z_cells hb8
                     have HK7 : Hid (Blk w7 gz 90 (frS (setV v 87 (.slice a2 hl hl)) (rd (s8 left dig) p (n + 1)))) := hb7
                     have HB7 : Hid (Below w4.heap.size w4 w7) := (unhide HBE).trans (hk7.below _ (Nat.le_of_eq (unhide HZ).at_.symm) (unhide HBE).size)
                     clear hb7 hb8 hk7))
                go_meet
                case rel => exact ⟨n + 1, by go_num, ⟨hlt, fun i hi => (unhide HGO) i (by omega), .inr (by rw [unhide HS]; exact .inr (.inr rfl))⟩, unhide HB7, unhide HK7⟩
              · have d7 : decide (st = 7) = false := decide_eq_false h7
                have e7 : (st == 7) = false := beq_eq_false_iff_ne.2 h7
                have d10 : decide (st = 10) = false := decide_eq_false h10
                have e10 : (st == 10) = false := beq_eq_false_iff_ne.2 h10
                have HGN : Hid (∀ i, i ≤ n + 1 → ¬ Stop (rd (s8 left dig) p i)) := fun i hi => by
                  by_cases e : i = n + 1
                  · subst e
                    rw [unhide HS]
                    rintro (h | h | h)
                    · cases h
                    · exact h7 h
                    · exact h10 h
                  · exact (unhide HGO) i (by omega)
                clear h7 h10
                go_wp2_with (first
                  | (go_at_call 17
                     refine (byte_any gz (setV v 87 (.slice a2 hl hl)) (rd (s8 left dig) p n) (p n) wr ((unhide HT).setH _ _ _).one (unhide HBK) (fine_rd (fine_s8 _ _) n (unhide HGO)).good ((unhide HP) n).1 ((unhide HP) n).2).mono ?_
                     rintro r w7 ⟨rfl, hb7, hk7⟩
                     have hb8 : Blk w7 gz 90 (frS (setV v 87 (.slice a2 hl hl)) ⟨false, st, lf, dg⟩) := by rw [← unhide HS]; exact hb7
                     obtain ⟨c0, c2, _, _⟩ := z_cells hb8
                     have HK7 : Hid (Blk w7 gz 90 (frS (setV v 87 (.slice a2 hl hl)) (rd (s8 left dig) p (n + 1)))) := hb7
                     have HB7 : Hid (Below w4.heap.size w4 w7) := (unhide HBE).trans (hk7.below _ (Nat.le_of_eq (unhide HZ).at_.symm) (unhide HBE).size)
                     clear hb7 hb8 hk7))
                go_roundw
                case rel => exact ⟨n + 1, by omega, by go_num, unhide HGN, unhide HB7, unhide HK7⟩
                case measure => simp [intOf]; omega
        · have hnn : n = l := by omega
          have hi : ¬ (n : Int) < (l : Int) := by omega
          go_wp2_with fail
          go_meet
          case rel => exact ⟨n, by rw [hnn], ⟨hnl, fun i hi => (unhide HGO) i (by omega), .inl hnn⟩, unhide HBE, unhide HBK⟩
    case rest =>
      obtain ⟨n, rfl, hend, hbe, hblk⟩ := hcut
      obtain ⟨am, st, lf, dg, hs⟩ : ∃ am st lf dg, rd (s8 left dig) p n = ⟨am, st, lf, dg⟩ := ⟨_, _, _, _, rfl⟩
      rw [hs] at hblk
      have HVD := hide (vd_mk hend hs)
      have hnl := hend.le
      have HPC := hide ((unhide HPR).next hbe)
      have HZC := hide hblk
      clear hs hend hbe hblk
      go_upto_region 24 with (first
        | (refine wpList_load_agg rfl 34 _ rfl Trym.agg34 g1 0 rfl (setV v 87 (.slice a1 hl hl)) (unhide HPC).bf.cells0 ?_)
        | (refine wpList_new rfl 34 rfl 90 Trym.zero34 ?_; intro w8 g7 v7 hz; have HN8 := hide hz; clear hz)
        | (refine wpList_store_agg rfl 34 _ _ rfl Trym.agg34 g7 0 90 (setV v 87 (.slice a1 hl hl)) v7 rfl rfl (unhide HN8).blk (by omega) ((unhide HT).setH _ _ _).one.ones ?_
           intro w9 hb9 hbut9
           have HR := hide (And.intro (hb9.congr (v' := setV v 87 (.slice a1 hl hl)) (fun j hj => put_all 90 _ _ j hj)) hbut9)
           obtain ⟨k0, k2, k88, k89⟩ := z_cells (below_blk (after_new (unhide HN8) (unhide HR).2) (unhide HZC).lt (unhide HZC))
           clear hb9 hbut9)
        | (refine wpList_store1 rfl 3 _ _ rfl Trym.size1_3 g7 2 90 _ rfl (.int .i64 st) rfl (one_int _ _) (unhide HR).1 (by omega) ?_
           intro w10 hb hbut
           replace HR := hide (And.intro hb ((unhide HR).2.trans hbut))
           obtain ⟨k0, k2, k88, k89⟩ := z_cells (below_blk (after_new (unhide HN8) (unhide HR).2) (unhide HZC).lt (unhide HZC))
           clear hb hbut)
        | (refine wpList_store1 rfl 4 _ _ rfl Trym.size1_4 g7 0 90 _ rfl (.bool am) rfl (one_bool _) (unhide HR).1 (by omega) ?_
           intro w11 hb hbut
           replace HR := hide (And.intro hb ((unhide HR).2.trans hbut))
           obtain ⟨k0, k2, k88, k89⟩ := z_cells (below_blk (after_new (unhide HN8) (unhide HR).2) (unhide HZC).lt (unhide HZC))
           clear hb hbut)
        | (refine wpList_store1 rfl 31 _ _ rfl Trym.size1_31 g7 88 90 _ rfl (.int .u64 lf) rfl (one_int _ _) (unhide HR).1 (by omega) ?_
           intro w12 hb hbut
           replace HR := hide (And.intro hb ((unhide HR).2.trans hbut))
           obtain ⟨k0, k2, k88, k89⟩ := z_cells (below_blk (after_new (unhide HN8) (unhide HR).2) (unhide HZC).lt (unhide HZC))
           clear hb hbut)
        | (refine wpList_store1 rfl 3 _ _ rfl Trym.size1_3 g7 89 90 _ rfl (.int .i64 dg) rfl (one_int _ _) (unhide HR).1 (by omega) ?_
           intro w13 hb hbut
           replace HR := hide (And.intro hb ((unhide HR).2.trans hbut))
           obtain ⟨k0, k2, k88, k89⟩ := z_cells (below_blk (after_new (unhide HN8) (unhide HR).2) (unhide HZC).lt (unhide HZC))
           clear hb hbut)
        | (go_at_call 18
           have hpp := (unhide HPC).next (after_new (unhide HN8) (unhide HR).2)
           have hzz := below_blk (after_new (unhide HN8) (unhide HR).2) (unhide HZC).lt (unhide HZC)
           refine (same_any gz g7 (frS (setV v 87 (.slice a2 hl hl)) ⟨am, st, lf, dg⟩) a2 a1 hl e w13 hzz rfl ((unhide HR).1.congr (fun j _ => rest_cells v _ _ am st lf dg j)) (((unhide HT).setH _ _ _).fr _ _ _ _).selfs (by omega) hpp.hn hpp.hi2 hpp.hi1).mono ?_
           rintro r w14 ⟨rfl, hq⟩
           clear k0 k2 k88 k89
           obtain ⟨k0, k2, k88, k89⟩ := z_cells (below_blk (drewN_below hq) hzz.lt hzz)
           have HP14 := hide (hpp.next (drewN_below hq))
           obtain ⟨f88, f89⟩ := f_cells (unhide HF) (unhide HP14).bf
           clear hpp hzz hq))
      rcases unhide HVD with ⟨x1, x2, x3, x4, x5, x6⟩ | ⟨x1, x2, x3, x4⟩ | ⟨x1, x2, x3, x4, x5, x6, x7⟩ | ⟨x1, x2, x3, x4, x5⟩ | ⟨L, x1, x2, x3, x4⟩
      · clear HVD
        subst x1 x2 x3 x4 x5 x6
        go_wp2
        go_ret
        refine ⟨rfl, ?_⟩
        repeat (first | exact (unhide HP14).below | apply Below.drew)
      · clear HVD
        obtain ⟨gs, ea, hgs, hsrc⟩ := (unhide HP14).src.resolve_left (by omega)
        subst ea x3 x4
        have hc0 : w14.cell? ⟨gs, 0, none⟩ = some (.int .u8 (p 0)) := hsrc.cell 0 (by omega)
        have d13 : decide (p 0 = 13) = false := decide_eq_false x2
        have e13 : (p 0 == 13) = false := beq_eq_false_iff_ne.2 x2
        have n13 : (p 0 != 13) = true := by simp [x2]
        have dl : decide ((l : Int) = 0) = false := decide_eq_false (by omega)
        have el : ((l : Int) == 0) = false := beq_eq_false_iff_ne.2 (by omega)
        have hl0 : (0 : Int) < (l : Int) := by omega
        clear hgs hsrc x2
        go_wp2
        go_ret
        refine ⟨rfl, ?_⟩
        repeat (first | exact (unhide HP14).below | apply Below.drew)
      · clear HVD
        obtain ⟨gs, ea, hgs, hsrc⟩ := (unhide HP14).src.resolve_left (by omega)
        subst ea x1 x3 x4 x5 x6 x7
        have hc0 : w14.cell? ⟨gs, 0, none⟩ = some (.int .u8 13) := x2 ▸ hsrc.cell 0 (by omega)
        clear hgs hsrc x2
        go_wp2
        go_ret
        refine ⟨rfl, ?_⟩
        repeat (first | exact (unhide HP14).below | apply Below.drew)
      · clear HVD
        obtain ⟨gs, ea, hgs, hsrc⟩ := (unhide HP14).src.resolve_left (by omega)
        subst ea x4 x5
        have hc0 : w14.cell? ⟨gs, 0, none⟩ = some (.int .u8 13) := x2 ▸ hsrc.cell 0 (by omega)
        have hc1 : w14.cell? ⟨gs, 1, none⟩ = some (.int .u8 (p 1)) := hsrc.cell 1 (by omega)
        have d10 : decide (p 1 = 10) = false := decide_eq_false x3
        have e10 : (p 1 == 10) = false := beq_eq_false_iff_ne.2 x3
        have n10 : (p 1 != 10) = true := by simp [x3]
        have dl : decide ((l : Int) = 0) = false := decide_eq_false (by omega)
        have el : ((l : Int) == 0) = false := beq_eq_false_iff_ne.2 (by omega)
        have dl1 : decide ((l : Int) = 1) = false := decide_eq_false (by omega)
        have el1 : ((l : Int) == 1) = false := beq_eq_false_iff_ne.2 (by omega)
        have hl0 : (0 : Int) < (l : Int) := by omega
        have hl1 : (1 : Int) < (l : Int) := by omega
        clear hgs hsrc x2 x3
        go_wp2
        go_ret
        refine ⟨rfl, ?_⟩
        repeat (first | exact (unhide HP14).below | apply Below.drew)
      · clear HVD
        obtain ⟨gs, ea, hgs, hsrc⟩ := (unhide HP14).src.resolve_left (by omega)
        subst ea
        have hc0 : w14.cell? ⟨gs, 0, none⟩ = some (.int .u8 13) := x2 ▸ hsrc.cell 0 (by omega)
        have hc1 : w14.cell? ⟨gs, 1, none⟩ = some (.int .u8 10) := x3 ▸ hsrc.cell 1 (by omega)
        obtain ⟨off, ho, hs1, hs2⟩ := slice_two gs l L x1
        have HC := hide (two_cells hsrc x1 ho)
        have dl : decide ((l : Int) = 0) = false := decide_eq_false (by omega)
        have el : ((l : Int) == 0) = false := beq_eq_false_iff_ne.2 (by omega)
        have dl1 : decide ((l : Int) = 1) = false := decide_eq_false (by omega)
        have el1 : ((l : Int) == 1) = false := beq_eq_false_iff_ne.2 (by omega)
        have hl0 : (0 : Int) < (l : Int) := by omega
        have hl1 : (1 : Int) < (l : Int) := by omega
        have HL := hide x4
        have hLL : L ≤ 1048576 := by omega
        clear hgs hsrc x2 x3 x4 ho x1
        go_wp2_with (first
          | (go_at_call 22
             refine (sizeLine_any gs off L L (fun i => p (i + 2)) w14 hLL (fun i => (unhide HP) (i + 2)) (unhide HC)).mono ?_
             rintro r w15 ⟨⟨V, k, val, h, rfl, hrel⟩, hw⟩
             obtain rfl := hw.symm
             have hout := (unhide HL) V k val h hrel
             clear hrel
             rcases hout with ⟨m, y1, y2, y3, y4, y5, y6, y7⟩ | ⟨m, y1, y2, y3, y4⟩ | ⟨m, y1, y2, y3, y4, y5, y6, y7, y8⟩ | ⟨m, y1, y2, y3, y4, y5, y6, y7, y8⟩
             (subst y1 y2 y3 y4 y5 y6; have HY := hide y7; clear y7)
             rotate_left
             (subst y1 y2 y3 y4)
             rotate_left
             (subst y1 y2 y3 y4 y5 y6 y7 y8)
             rotate_left
             (subst y1 y2 y3 y4 y5 y6 y8; have z0 : decide (val = 0) = false := decide_eq_false y7; have z1 : (val == 0) = false := beq_eq_false_iff_ne.2 y7; clear y7)
             rotate_left)
          | (go_at_call 14
             refine (inSize_3 st _ (unhide HY)).mono ?_
             rintro r w16 ⟨rfl, hw⟩
             obtain rfl := hw.symm))
        all_goals
          go_ret
          refine ⟨rfl, ?_⟩
          repeat (first | exact (unhide HP14).below | apply Below.drew)
end Go.Proofs.Qxb6602878aMods
