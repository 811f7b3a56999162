/- Seat b6601051aM: the records, one behind the other, and the law. -/
import Derived.Test.Qxb6601051aModsHeld
namespace Go.Proofs.Qxb6601051aMods
open Go.RowKit

theorem Has.but2 {w w' : World} {a : Option Addr} {l c : Nat} {e : Nat → ByteArray} (h : Has w a l c e) {b1 n1 b2 n2 : Nat} {f1 f2 : List UInt8 → Option Value} (hm1 : MapIs w b1 f1 n1) (hm2 : MapIs w b2 f2 n2) (hb : But2 b1 b2 w w') : Has w' a l c e := by
  rcases h with h | ⟨x, h1, h2⟩
  · exact .inl h
  · refine .inr ⟨x, h1, fun i hi => ?_⟩
    have hc := h2 i hi
    have hne1 : (x.add i).block ≠ b1 := by
      intro e
      obtain ⟨D, ⟨es, clock, hm1, r⟩, r2⟩ := hm1
      simp [World.cell?, e, hm1] at hc
    have hne2 : (x.add i).block ≠ b2 := by
      intro e
      obtain ⟨D, ⟨es, clock, hm1, r⟩, r2⟩ := hm2
      simp [World.cell?, e, hm1] at hc
    exact (World.cell?_of_block (hb.block _ hne1 hne2)).trans hc
theorem Plc.but2 {w w' : World} {gP bU bS n1 n2 : Nat} {f1 f2 : List UInt8 → Option Value} (h : Plc w gP bU bS) (hm1 : MapIs w bU f1 n1) (hm2 : MapIs w bS f2 n2) (hb : But2 bU bS w w') : Plc w' gP bU bS :=
  ⟨(World.cell?_of_block (hb.block _ (cell_ne_map hm1 h.c2) (cell_ne_map hm2 h.c2))).trans h.c2, (World.cell?_of_block (hb.block _ (cell_ne_map hm1 h.c3) (cell_ne_map hm2 h.c3))).trans h.c3⟩

/-- The placer behind the first t records. -/
structure Rec (wB w : World) (gP bU bS t : Nat) (nm : Nat → ByteArray) (za : Nat → Option Addr) (ln : Nat → Nat) (el : Nat → Nat → ByteArray) : Prop where
  below : Below wB.heap.size wB w
  hU : wB.heap.size ≤ bU
  hS : wB.heap.size ≤ bS
  ne : bU ≠ bS
  plc : Plc w gP bU bS
  used : ∃ nu : Nat, (nu : Int) = tot (keyN nm) t (anyL ln) ∧ MapIs w bU (usedF (keyN nm) za ln t) nu
  use : MapIs w bS (useF (fun z => tot (keyN nm) t (occL el ln z)) (allH el ln t)) (ndr (allH el ln t))
  zones : ∀ i, i < t → Has w (za i) (ln i) (ln i) (el i)

theorem rec_start {wB w : World} {gP bU bS : Nat} (nm : Nat → ByteArray) (ln : Nat → Nat) (el : Nat → Nat → ByteArray) (h1 : Plc w gP bU bS) (h2 : MapIs w bU (fun _ => none) 0) (h3 : MapIs w bS (fun _ => none) 0) (h4 : Below wB.heap.size wB w) (h5 : wB.heap.size ≤ bU) (h6 : wB.heap.size ≤ bS) (h7 : bU ≠ bS) :
    Rec wB w gP bU bS 0 nm (fun _ => none) ln el :=
  ⟨h4, h5, h6, h7, h1, ⟨0, rfl, h2⟩, h3.congr (fun z => by simp [useF, allH]), fun i hi => by omega⟩
theorem rec_next {wB w w' : World} {gP bU bS t : Nat} {nm : Nat → ByteArray} {za : Nat → Option Addr} {ln : Nat → Nat} {el : Nat → Nat → ByteArray} (h : Rec wB w gP bU bS t nm za ln el) (hb : Below w.heap.size w w') : Rec wB w' gP bU bS t nm za ln el := by
  obtain ⟨nu, h1, h2⟩ := h.used
  exact ⟨h.below.trans (hb.mono h.below.size), h.hU, h.hS, h.ne, h.plc.next hb, ⟨nu, h1, h2.next hb⟩, h.use.next hb, fun i hi => (h.zones i hi).next hb⟩

/-- The old list of the name that is recorded next. -/
theorem rec_old {wB w : World} {gP bU bS t : Nat} {nm : Nat → ByteArray} {za : Nat → Option Addr} {ln : Nat → Nat} {el : Nat → Nat → ByteArray} (h : Rec wB w gP bU bS t nm za ln el) (hln : ∀ i, i < t → ln i ≤ 1048576) (hes : ∀ i j, (el i j).size ≤ maxLen) :
    ∃ oa ol oe, (usedF (keyN nm) za ln t (key (nm t))).getD (.slice none 0 0) = .slice oa ol ol ∧ Has w oa ol ol oe ∧ (∀ j, j < ol → key (oe j) ∈ allH el ln t) ∧ (∀ j, (oe j).size ≤ maxLen) ∧ ol ≤ 1048576 ∧ ∀ z, occ oe ol z = oldOf (keyN nm) t (occL el ln z) (keyN nm t) := by
  rw [show key (nm t) = keyN nm t from rfl]
  cases hp : prev (keyN nm) t (keyN nm t) with
  | none => exact ⟨none, 0, fun _ => ByteArray.empty, by simp [usedF, hp], .inl ⟨rfl, rfl, rfl⟩, fun j hj => by omega, fun j => by simp, by omega, fun z => by simp [oldOf, hp, occ]⟩
  | some i =>
    obtain ⟨hi, _⟩ := prev_spec _ _ _ _ hp
    refine ⟨if 0 < ln i then za i else none, ln i, el i, ?_, ?_, fun j hj => (mem_allH el ln t _).2 ⟨i, hi, j, hj, rfl⟩, hes i, hln i hi, fun z => by simp [oldOf, hp, occL]⟩
    · unfold usedF
      rw [hp]
      by_cases h0 : 0 < ln i
      · simp [h0]
      · obtain h1 : ln i = 0 := by omega
        simp [h1]
    · by_cases h0 : 0 < ln i
      · rw [if_pos h0]; exact h.zones i hi
      · obtain h1 : ln i = 0 := by omega
        rw [if_neg h0, h1]; exact .inl ⟨rfl, rfl, rfl⟩

/-- What a record leaves. -/
def RecSaid (wB : World) (gP bU bS t : Nat) (nm : Nat → ByteArray) (ln : Nat → Nat) (el : Nat → Nat → ByteArray) (w' : World) : Prop := ∃ za, Rec wB w' gP bU bS t nm za ln el

set_option maxHeartbeats 1000000 in
/-- ZZRecord, of the list of name t. -/
theorem rec_step {wB w : World} {gP bU bS t : Nat} {nm : Nat → ByteArray} {za : Nat → Option Addr} {ln : Nat → Nat} {el : Nat → Nat → ByteArray} (h : Rec wB w gP bU bS t nm za ln el) (hln : ∀ i, i ≤ t → ln i ≤ 1048576) (ht : t < 1048576) (hns : ∀ i, (nm i).size ≤ maxLen) (hes : ∀ i j, (el i j).size ≤ maxLen)
    (a : Option Addr) (ha : Has w a (ln t) (ln t) (el t)) :
    Calls Trym.prog 11 #[.pointer (some ⟨gP, 0, none⟩), .string (nm t), .slice a (ln t) (ln t)] w fun r w' => ∃ v, r = .returned v ∧ RecSaid wB gP bU bS (t + 1) nm ln el w' := by
  obtain ⟨nu, hnu, hUm⟩ := h.used
  obtain ⟨oa, ol, oe, h1, h2, h3, h4, h5, h6⟩ := rec_old h (fun i hi => hln i (by omega)) hes
  have hcb : ∀ z, 0 ≤ tot (keyN nm) t (occL el ln z) ∧ tot (keyN nm) t (occL el ln z) ≤ (t : Int) * 1048576 := fun z => tot_bd _ _ _ _ (by omega) (fun j hj => by
    have := occ_bd (el j) (ln j) z; have := hln j (by omega); unfold occL; omega)
  have hnb := tot_bd (keyN nm) t (anyL ln) 1 (by omega) (fun j _ => by unfold anyL; split <;> omega)
  have hlen := len_allH el ln t t (Nat.le_refl _) (fun i hi => hln i (by omega))
  have hrec := record_any gP bU bS _ nu _ _ (nm t) a (ln t) (el t) oa ol oe w h.ne h.plc hUm h.use h1 h2 h3 ha (hns t) h4 (hes t) h5 (hln t (Nat.le_refl _)) (fun z hz => tot_zero _ _ _ _ _ hz) (fun z => by have := hcb z; omega) (by omega) (by omega)
  have HR : Calls Trym.prog 16 #[.pointer (some ⟨gP, 0, none⟩), .string (nm t), .slice a (ln t) (ln t)] w fun r w' => r = .returned (.tuple #[]) ∧ RecSaid wB gP bU bS (t + 1) nm ln el w' := by
    refine hrec.mono fun r w' hh => ?_
    obtain ⟨q1, q2, q3, q4⟩ := hh
    refine ⟨q1, fun i => if i = t then a else za i, ?_, h.hU, h.hS, h.ne, h.plc.but2 hUm h.use q4, ⟨_, ?_, q2.congr (fun k => ?_)⟩, ?_, fun i hi => ?_⟩
    · exact h.below.trans ⟨q4.os, q4.tape, q4.output, Nat.le_of_eq q4.size.symm, fun k hk => q4.block k (by have := h.hU; omega) (by have := h.hS; omega)⟩
    · exact usedN_step (keyN nm) za ln t nu hnu
    · have e1 := usedF_step (keyN nm) (fun i => if i = t then a else za i) ln t k
      simp only [if_true] at e1
      rw [← e1]
      show nextU _ _ _ _ k = nextU _ _ _ _ k
      congr 1
      exact funext fun k' => usedF_congr _ _ _ _ _ (fun i hi => by rw [if_neg (by omega)]) k'
    · exact q3.congr (fun z => by
        show useF _ (allH el ln (t + 1)) z = _
        unfold useF
        simp only [cnt_step (keyN nm) el ln t _ oe ol h6])
    · by_cases e : i = t
      · subst e; simp only [if_true]; exact ha.but2 hUm h.use q4
      · simp only [if_neg e]; exact (h.zones i (by omega)).but2 hUm h.use q4
  have HH := hide HR
  clear HR hrec h hUm h1 h2 h3 h4 h5 h6 hcb hlen hln hns hes ha hnu hnb
  go_enter Trym.func11, Trym.ntmps11
  go_wp2_with (first
    | (go_at_call 16
       refine (unhide HH).mono ?_
       rintro e w' ⟨rfl, hw⟩
       have HW := hide hw
       clear hw))
  go_end0
  exact ⟨_, rfl, unhide HW⟩

theorem Trym.single9 : single Trym.prog 9 = true := by kernel_rfl
theorem Trym.single22 : single Trym.prog 22 = true := by kernel_rfl
theorem Trym.size_elem22 (w : World) : (sizeOf (Trym.prog.elem 22)).run Trym.prog w = .ok 1 w := by kernel_rfl
theorem Trym.size_elem23 (w : World) : (sizeOf (Trym.prog.elem 23)).run Trym.prog w = .ok 1 w := by kernel_rfl
theorem Trym.under22 : Trym.prog.underlying 22 = some (.slice (Trym.prog.elem 22)) := by kernel_rfl
theorem Trym.under23 : Trym.prog.underlying 23 = some (.slice (Trym.prog.elem 23)) := by kernel_rfl
theorem Trym.followsM : Trym.prog.follows .mixedOrders = true := by kernel_rfl

/-- What y tells. -/
def Tells (y : Bool) (n m : Nat) (ln : Nat → Nat) : Prop := y = true → n ≤ 1048576 ∧ m ≤ 1048576 ∧ ∀ i, i < m → ln i ≤ 1048576
theorem tells {n m : Nat} {ln : Nat → Nat} (h : Tells true n m ln) : n ≤ 1048576 ∧ m ≤ 1048576 ∧ ∀ i, i < m → ln i ≤ 1048576 := h rfl
/-- What the law answers. -/
def LawSaid (w : World) (r : Ending) (w' : World) : Prop := r = .returned (.bool true) ∧ Below w.heap.size w w'

theorem ContL.hasL {B : Nat} {w : World} {a : Option Addr} {m : Nat} {ln : Nat → Nat} {el : Nat → Nat → ByteArray} (h : ContL B w a m ln el) : ∃ lv, HasL w a m m lv ln ln el := by
  rcases h with rfl | ⟨g, lv, rfl, _, hb, hc⟩
  · cases a with
    | none => exact ⟨fun _ => none, .inl ⟨rfl, rfl, rfl⟩⟩
    | some x => exact ⟨fun _ => none, .inr ⟨x, rfl, fun i hi => by omega⟩⟩
  · refine ⟨lv, .inr ⟨_, rfl, fun i hi => ⟨?_, (hc i hi).has⟩⟩⟩
    rw [Addr.add_lit]
    exact cells0 hb i hi

set_option linter.unusedVariables false in
set_option maxHeartbeats 4000000 in
set_option maxRecDepth 8000 in
theorem law_any (a0 : Option Addr) (n c0 : Nat) (nm : Nat → ByteArray) (a : Option Addr) (m c : Nat) (la : Nat → Option Addr) (ln lc : Nat → Nat) (el : Nat → Nat → ByteArray) (w : World) (hn : n ≤ maxLen) (hns : ∀ i, (nm i).size ≤ maxLen) (hh0 : Has w a0 n c0 nm)
    (hm : m ≤ maxLen) (hln : ∀ i, i < m → ln i ≤ maxLen) (hes : ∀ i j, (el i j).size ≤ maxLen) (hh : HasL w a m c la ln lc el) :
    Calls Trym.prog 3 #[.slice a0 n c0, .slice a m c] w (LawSaid w) := by
  have H5 := hide (bytes5_any a0 n c0 nm a m c la ln lc el w hn hns hh0 hm hln hes hh)
  have H6 := hide (strBytes_any a0 n c0 nm w hn hns hh0)
  have H7 := hide (listBytes_any a m c la ln lc el w hm hln hes hh)
  have HH0 := hide hh0
  have HH := hide hh
  have HNS := hide hns
  have HES := hide hes
  clear hh0 hh hns hes hln
  unfold maxLen at hn hm
  by_cases hnm : n = m
  rotate_left
  · have hd : decide ((n : Int) = (m : Int)) = false := decide_eq_false (by omega)
    go_enter Trym.func3, Trym.ntmps3
    go_wp2_with (first
      | (go_at_call 5
         refine (unhide H5).mono ?_
         rintro e w' ⟨⟨y, rfl, hy⟩, hw⟩
         obtain rfl := hw.symm
         have HY := hide (show Tells y _ _ ln from hy)
         clear hy
         cases y)
      | (go_at_call 6
         refine (unhide H6).mono ?_
         rintro e w' ⟨⟨T, rfl⟩, hw⟩
         obtain rfl := hw.symm)
      | (go_at_call 7
         refine (unhide H7).mono ?_
         rintro e w' ⟨⟨T, rfl⟩, hw⟩
         obtain rfl := hw.symm))
    all_goals (go_ret; exact ⟨rfl, Below.refl _ _⟩)
  · subst hnm
    go_enter Trym.func3, Trym.ntmps3
    go_wp2_with (first
      | (go_at_call 5
         refine (unhide H5).mono ?_
         rintro e w' ⟨⟨y, rfl, hy⟩, hw⟩
         obtain rfl := hw.symm
         have HY := hide (show Tells y _ _ ln from hy)
         clear hy
         cases y)
      | (go_at_call 6
         refine (unhide H6).mono ?_
         rintro e w' ⟨⟨T, rfl⟩, hw⟩
         obtain rfl := hw.symm)
      | (go_at_call 7
         refine (unhide H7).mono ?_
         rintro e w' ⟨⟨T, rfl⟩, hw⟩
         obtain rfl := hw.symm)
      | (go_at_call 8
         refine (clone_any a0 n c0 nm w (tells (unhide HY)).1 (unhide HH0)).mono ?_
         rintro e w1 ⟨a0', rfl, hc1, hb1⟩
         have HC1 := hide hc1
         have HB1 := hide hb1
         clear hc1 hb1)
      | (go_at_call 9
         refine (cloneLists_any a n c la ln lc el w1 (tells (unhide HY)).1 (tells (unhide HY)).2.2 ((unhide HH).next (unhide HB1))).mono ?_
         rintro e w2 ⟨a', rfl, hc2, hb2⟩
         have HC2 := hide hc2
         have HB2 := hide hb2
         clear hc2 hb2)
      | (go_at_call 10
         refine (newPlacer_any _ _ w2).mono ?_
         rintro e w3 ⟨gP, bU, bS, rfl, q1, q2, q3, q4, q5, q6, q7⟩
         have HR := hide (rec_start nm ln el q1 q2 q3 q4 q5 q6 q7)
         clear q1 q2 q3 q4 q5 q6 q7))
    · go_ret
      exact ⟨rfl, Below.refl _ _⟩
    · go_ret
      exact ⟨rfl, Below.refl _ _⟩
    · obtain ⟨n20, _, hl20⟩ := tells (unhide HY)
      have HL20 := hide hl20
      clear hl20
      obtain ⟨lv, hlv⟩ := (unhide HC2).hasL
      have HLV := hide hlv
      have HN2 := hide ((unhide HC1).has.next (unhide HB2))
      have HBW := hide ((unhide HB1).trans ((unhide HB2).mono (unhide HB1).size))
      clear hlv
      go_loopw [6] (fun i wr => ∃ k : Nat, k ≤ n ∧ i = .int .i64 k ∧ RecSaid w2 gP bU bS k nm ln el wr) (fun i _ => n - (intOf i).toNat)
      case atStart => exact ⟨0, Nat.zero_le _, rfl, _, unhide HR⟩
      case round =>
        obtain ⟨k, hk, rfl, za, hrec⟩ := hrel
        have HREC := hide hrec
        by_cases hlt : k < n
        · obtain ⟨b0, o0, rfl, hc0⟩ := (unhide HN2).at hlt
          obtain ⟨b1, o1, rfl, hc1⟩ := (unhide HLV).at hlt
          have hck := hc0 k hlt
          have hcl := (hc1 k hlt).1
          have hasl := hide (hc1 k hlt).2
          clear hrec hc0 hc1
          have S1 := hide (fun (wx : World) (hw : Below w2.heap.size w2 wx) => show wx.cell? ⟨b0, o0 + k, none⟩ = some (.string (nm k)) from (World.cell?_of_block (hw.block _ (cell_lt hck))).trans hck)
          have S2 := hide (fun (wx : World) (hw : Below w2.heap.size w2 wx) => show wx.cell? ⟨b1, o1 + k, none⟩ = some (.slice (lv k) (ln k) (ln k)) from (World.cell?_of_block (hw.block _ (cell_lt hcl))).trans hcl)
          clear hck hcl
          go_wp2
          refine wp_region_held_tail 9 (fun w' => Below w2.heap.size w2 w') Trym.followsM (fun c a d v w h => by cases d <;> exact h) (by kernel_rfl) (below_drew (unhide HREC).below 1) ?_
          simp only [List.take_succ_cons, List.take_zero, List.drop_succ_cons, List.drop_zero]
          refine held_move rfl _ rfl (.pointer (some ⟨gP, 0, none⟩)) rfl ?_
          simp only [Act.put, List.setIfInBounds_toArray, List.set_cons_zero, List.set_cons_succ]
          refine held_move rfl _ rfl (.slice (some ⟨b0, o0, none⟩) n n) rfl ?_
          simp only [Act.put, List.setIfInBounds_toArray, List.set_cons_zero, List.set_cons_succ]
          refine held_move rfl _ rfl (.int .i64 (k : Int)) rfl ?_
          simp only [Act.put, List.setIfInBounds_toArray, List.set_cons_zero, List.set_cons_succ]
          refine held_index rfl 22 _ _ rfl Trym.under22 Trym.size_elem22 b0 o0 n n k rfl rfl hlt ?_
          simp only [Act.put, List.setIfInBounds_toArray, List.set_cons_zero, List.set_cons_succ]
          refine held_load rfl 9 _ rfl Trym.single9 b0 (o0 + k) rfl (.string (nm k)) (unhide S1) ?_
          simp only [Act.put, List.setIfInBounds_toArray, List.set_cons_zero, List.set_cons_succ]
          refine held_move rfl _ rfl (.slice (some ⟨b1, o1, none⟩) n n) rfl ?_
          simp only [Act.put, List.setIfInBounds_toArray, List.set_cons_zero, List.set_cons_succ]
          refine held_move rfl _ rfl (.int .i64 (k : Int)) rfl ?_
          simp only [Act.put, List.setIfInBounds_toArray, List.set_cons_zero, List.set_cons_succ]
          refine held_index rfl 23 _ _ rfl Trym.under23 Trym.size_elem23 b1 o1 n n k rfl rfl hlt ?_
          simp only [Act.put, List.setIfInBounds_toArray, List.set_cons_zero, List.set_cons_succ]
          refine held_load rfl 22 _ rfl Trym.single22 b1 (o1 + k) rfl (.slice (lv k) (ln k) (ln k)) (unhide S2) ?_
          simp only [Act.put, List.setIfInBounds_toArray, List.set_cons_zero, List.set_cons_succ]
          refine wpHeld_nil ?_
          have hbd := below_drew (unhide HREC).below 1
          refine tail_call (R := fun v w' => ∃ a2, v = .slice a2 (ln k) (ln k) ∧ Cont wr.heap.size w' a2 (ln k) (el k) ∧ Below wr.heap.size wr.drew w') rfl 8 #[.slice (lv k) (ln k) (ln k)] (by kernel_rfl) ((clone_any (lv k) (ln k) (ln k) (el k) wr.drew ((unhide HL20) k hlt) ((unhide hasl).next hbd)).mono ?_) ?_
          · rintro e w5 ⟨a2, rfl, h2, h3⟩
            exact ⟨_, rfl, a2, rfl, h2, h3⟩
          · rintro v w5 ⟨a2, rfl, h2, h3⟩
            have HBW5 := hide h3
            have hr5 : Rec w2 w5 gP bU bS k nm za ln el := rec_next (unhide HREC) ⟨h3.os, h3.tape, h3.output, h3.size, h3.block⟩
            refine ⟨hr5.below, ?_⟩
            simp only [Act.put, List.setIfInBounds_toArray, List.set_cons_zero, List.set_cons_succ]
            refine tail_call (R := fun v w' => RecSaid w2 gP bU bS (k + 1) nm ln el w') rfl 11 #[.pointer (some ⟨gP, 0, none⟩), .string (nm k), .slice a2 (ln k) (ln k)] (by kernel_rfl) (rec_step hr5 (fun i hi => (unhide HL20) i (by omega)) (by omega) (unhide HNS) (unhide HES) a2 h2.has) ?_
            rintro v w6 hs6
            have HS6 := hide hs6
            refine ⟨hs6.choose_spec.below, ?_⟩
            simp only [Act.put, List.setIfInBounds_toArray, List.set_cons_zero, List.set_cons_succ]
            refine wpTail_nil ?_
            clear h2 h3 hr5 hs6 hbd
            go_wp2
            go_roundw
            case rel => exact ⟨k + 1, by omega, by go_num, unhide HS6⟩
            case measure => simp [intOf]; omega
        · obtain rfl : k = n := by omega
          clear hrec
          go_wp2_with (first
            | (go_at_call 12
               obtain ⟨nu, hnu, hum⟩ := (unhide HREC).used
               refine (lastWins_any gP bU bS k nu nm za lv ln el a0' a' wr ⟨n20, unhide HL20, unhide HNS, unhide HES, (unhide HREC).plc, hum, hnu, (unhide HREC).use, (unhide HN2).next (unhide HREC).below, (unhide HLV).next (unhide HREC).below, (unhide HREC).zones⟩).mono ?_
               rintro e w4 ⟨rfl, hb4⟩
               have HB4 := hide hb4
               clear hb4 hnu hum))
          go_ret
          exact ⟨rfl, ((unhide HBW).trans ((unhide HREC).below.mono (unhide HBW).size)).trans ((unhide HB4).mono (((unhide HBW).trans ((unhide HREC).below.mono (unhide HBW).size)).size))⟩
end Go.Proofs.Qxb6601051aMods
