/- Seat b6601051aM: zzLastWins. -/
import Derived.Test.Qxb6601051aModsPlain
import Derived.Deep.QuietTactic
import Derived.BigQuiet
namespace Go.Proofs.Qxb6601051aMods
open Go.RowKit

theorem HasL.next {w w' : World} {a : Option Addr} {m c : Nat} {la : Nat → Option Addr} {ln lc : Nat → Nat} {el : Nat → Nat → ByteArray} (h : HasL w a m c la ln lc el) (hb : Below w.heap.size w w') : HasL w' a m c la ln lc el := by
  rcases h with h | ⟨x, h1, h2⟩
  · exact .inl h
  · refine .inr ⟨x, h1, fun i hi => ⟨?_, (h2 i hi).2.next hb⟩⟩
    have hc := (h2 i hi).1
    have hlt : (x.add i).block < w.heap.size := by
      rcases Nat.lt_or_ge (x.add i).block w.heap.size with h | h
      · exact h
      · simp [World.cell?, Array.getElem?_eq_none h] at hc
    exact (World.cell?_of_block (hb.block _ hlt)).trans hc
theorem MapIs.next {w w' : World} {b n : Nat} {f : List UInt8 → Option Value} (h : MapIs w b f n) (hb : Below w.heap.size w w') : MapIs w' b f n := h.of_block (hb.block b h.lt)
theorem cell_lt {w : World} {a : Addr} {v : Value} (hc : w.cell? a = some v) : a.block < w.heap.size := by
  rcases Nat.lt_or_ge a.block w.heap.size with h | h
  · exact h
  · simp [World.cell?, Array.getElem?_eq_none h] at hc
theorem Plc.next {w w' : World} {gP bU bS : Nat} (h : Plc w gP bU bS) (hb : Below w.heap.size w w') : Plc w' gP bU bS :=
  ⟨(World.cell?_of_block (hb.block _ (cell_lt h.c2))).trans h.c2, (World.cell?_of_block (hb.block _ (cell_lt h.c3))).trans h.c3⟩

/-- The key of name i. -/
def keyN (nm : Nat → ByteArray) (i : Nat) : List UInt8 := key (nm i)

/-- What stands behind the records. -/
structure St (w : World) (gP bU bS n nu : Nat) (nm : Nat → ByteArray) (za lv : Nat → Option Addr) (ln : Nat → Nat) (el : Nat → Nat → ByteArray) (a0 a : Option Addr) : Prop where
  n20 : n ≤ 1048576
  ln20 : ∀ i, i < n → ln i ≤ 1048576
  ns : ∀ i, (nm i).size ≤ maxLen
  es : ∀ i j, (el i j).size ≤ maxLen
  plc : Plc w gP bU bS
  used : MapIs w bU (usedF (keyN nm) za ln n) nu
  usedN : (nu : Int) = tot (keyN nm) n (anyL ln)
  use : MapIs w bS (useF (fun z => tot (keyN nm) n (occL el ln z)) (allH el ln n)) (ndr (allH el ln n))
  names : Has w a0 n n nm
  lists : HasL w a n n lv ln ln el
  zones : ∀ i, i < n → Has w (za i) (ln i) (ln i) (el i)
theorem St.next {w w' : World} {gP bU bS n nu : Nat} {nm : Nat → ByteArray} {za lv : Nat → Option Addr} {ln : Nat → Nat} {el : Nat → Nat → ByteArray} {a0 a : Option Addr} (h : St w gP bU bS n nu nm za lv ln el a0 a) (hb : Below w.heap.size w w') : St w' gP bU bS n nu nm za lv ln el a0 a :=
  ⟨h.n20, h.ln20, h.ns, h.es, h.plc.next hb, h.used.next hb, h.usedN, h.use.next hb, h.names.next hb, h.lists.next hb, fun i hi => (h.zones i hi).next hb⟩

/-- The backward loop, the names from p on handled. -/
structure Inv1 (w wr : World) (n p : Nat) (K : Nat → List UInt8) (ln : Nat → Nat) (el : Nat → Nat → ByteArray) : Prop where
  below : Below w.heap.size w wr
  done : ∃ nd, nd + p ≤ n ∧ MapIs wr w.heap.size (doneF K n p) nd
  cnt : ∃ hC, (∀ z, z ∉ hC → suf K n p (occL el ln z) = 0) ∧ hC.length + p * 1048576 ≤ n * 1048576 ∧ MapIs wr (w.heap.size + 1) (useF (fun z => suf K n p (occL el ln z)) hC) (ndr hC)

theorem inv1_start (w : World) (n : Nat) (K : Nat → List UInt8) (ln : Nat → Nat) (el : Nat → Nat → ByteArray) : Inv1 w ((w.alloc (.map #[] 0)).alloc (.map #[] 0)) n n K ln el := by
  have h1 := mapIs_made (w.alloc (.map #[] 0))
  rw [sz_alloc] at h1
  refine ⟨((Below.refl _ _).alloc (Nat.le_refl _) _).alloc (by simp) _, ⟨0, by omega, (mapIs_alloc (mapIs_made w) _).congr (fun k => doneF_end K n k)⟩, [], fun z _ => suf_end _ _ _, by simp, h1.congr (fun z => ?_)⟩
  simp [useF]

/-- A name that is done. -/
theorem inv1_skip {w wr : World} {n p : Nat} {K : Nat → List UInt8} {ln : Nat → Nat} {el : Nat → Nat → ByteArray} (h : Inv1 w wr n (p + 1) K ln el) (hp : prev K n (K p) ≠ some p) : Inv1 w wr n p K ln el := by
  obtain ⟨h1, ⟨nd, h2, h3⟩, hC, h4, h5, h6⟩ := h
  have h5' : hC.length + p * 1048576 ≤ n * 1048576 := Nat.le_trans (Nat.add_le_add_left (Nat.mul_le_mul_right _ (Nat.le_succ p)) _) h5
  have e : ∀ g, suf K n p g = suf K n (p + 1) g := fun g => by rw [suf_step, atLast, if_neg hp]; omega
  exact ⟨h1, ⟨nd, by omega, h3.congr (fun k => doneF_old K n p hp k)⟩, hC, fun z hz => (e _).trans (h4 z hz), h5', h6.congr (fun z => by simp only [useF, e])⟩
/-- A name whose last list has no zones. -/
theorem inv1_none {w wr w2 : World} {n p nd : Nat} {K : Nat → List UInt8} {ln : Nat → Nat} {el : Nat → Nat → ByteArray} (h : Inv1 w wr n (p + 1) K ln el) (hp : prev K n (K p) = some p) (hz : ln p = 0)
    (hb : But w.heap.size wr w2) (hd : nd + p ≤ n) (hm : MapIs w2 w.heap.size (upd (doneF K n (p + 1)) (K p) (some (.bool true))) nd) : Inv1 w w2 n p K ln el := by
  obtain ⟨h1, _, hC, h4, h5, h6⟩ := h
  have h5' : hC.length + p * 1048576 ≤ n * 1048576 := Nat.le_trans (Nat.add_le_add_left (Nat.mul_le_mul_right _ (Nat.le_succ p)) _) h5
  have e : ∀ z, suf K n p (occL el ln z) = suf K n (p + 1) (occL el ln z) := fun z => by rw [suf_step, atLast, if_pos hp, occL, hz]; simp [occ]
  exact ⟨hb.below' h1 (Nat.le_refl _), ⟨nd, hd, hm.congr (fun k => doneF_new K n p hp k)⟩, hC, fun z hz => (e z).trans (h4 z hz), h5', (h6.but hb (by omega)).congr (fun z => by simp only [useF, e])⟩

/-- The inner loop of the counts. -/
structure Inv2 (w wr : World) (n p q : Nat) (K : Nat → List UInt8) (ln : Nat → Nat) (el : Nat → Nat → ByteArray) : Prop where
  below : Below w.heap.size w wr
  done : ∃ nd, nd + p ≤ n ∧ MapIs wr w.heap.size (doneF K n p) nd
  cnt : ∃ hC, (∀ z, z ∉ hC → suf K n (p + 1) (occL el ln z) = 0) ∧ hC.length + (p + 1) * 1048576 ≤ n * 1048576 ∧ MapIs wr (w.heap.size + 1) (useF (fun z => suf K n (p + 1) (occL el ln z) + occ (el p) q z) (hist (el p) q hC)) (ndr (hist (el p) q hC))
theorem inv2_start {w wr w2 w3 : World} {n p nd : Nat} {K : Nat → List UInt8} {ln : Nat → Nat} {el : Nat → Nat → ByteArray} (h : Inv1 w wr n (p + 1) K ln el) (hp : prev K n (K p) = some p)
    (hb : But w.heap.size wr w2) (hd : nd + p ≤ n) (hm : MapIs w2 w.heap.size (upd (doneF K n (p + 1)) (K p) (some (.bool true))) nd) (h3 : ∃ q, w3 = w2.drewN q) : Inv2 w w3 n p 0 K ln el := by
  obtain ⟨q, rfl⟩ := h3
  obtain ⟨h1, _, hC, h4, h5, h6⟩ := h
  have hbl := hb.below' h1 (Nat.le_refl _)
  exact ⟨⟨hbl.os, hbl.tape, hbl.output, hbl.size, hbl.block⟩, ⟨nd, hd, (hm.congr (fun k => doneF_new K n p hp k)).of_block rfl⟩, hC, h4, h5, ((h6.but hb (by omega)).of_block (w' := w2.drewN q) rfl).congr (fun z => by simp [useF, hist, occ])⟩
theorem inv2_end {w wr : World} {n p : Nat} {K : Nat → List UInt8} {ln : Nat → Nat} {el : Nat → Nat → ByteArray} (h : Inv2 w wr n p (ln p) K ln el) (hp : prev K n (K p) = some p) (hl : ln p ≤ 1048576) : Inv1 w wr n p K ln el := by
  obtain ⟨h1, h2, hC, h4, h5, h6⟩ := h
  have e : ∀ z, suf K n p (occL el ln z) = suf K n (p + 1) (occL el ln z) + occ (el p) (ln p) z := fun z => by rw [suf_step, atLast, if_pos hp, occL]
  refine ⟨h1, h2, hist (el p) (ln p) hC, fun z hz => ?_, ?_, h6.congr (fun z => by simp only [useF, e])⟩
  · rw [mem_hist] at hz
    rw [e, h4 z (fun h => hz (.inl h)), occ_zero _ _ _ (fun j hj he => hz (.inr ⟨j, hj, he⟩))]; rfl
  · rw [len_hist]; omega
/-- A step of the inner loop: the count's value, its store, and what follows. -/
theorem inv2_step {w wr : World} {n p q : Nat} {K : Nat → List UInt8} {ln : Nat → Nat} {el : Nat → Nat → ByteArray} (h : Inv2 w wr n p q K ln el) (hp : p < n) (hn : n ≤ 1048576) (hq : q < ln p) (hln : ∀ i, i < n → ln i ≤ 1048576) (hs : (el p q).size ≤ maxLen) :
    ∃ (x : Int) (w2 : World), 0 ≤ x ∧ x ≤ 2199023255552 ∧ (Instr.lookup 39 (.map (some (w.heap.size + 1))) (.string (el p q)) false).run Trym.prog wr = .ok (.int .i64 x) wr ∧
      (Instr.mapUpdate 39 (.map (some (w.heap.size + 1))) (.string (el p q)) (.int .i64 (x + 1))).run Trym.prog wr = .ok () w2 ∧ Inv2 w w2 n p (q + 1) K ln el := by
  obtain ⟨h1, ⟨nd, h2, h3⟩, hC, h4, h5, h6⟩ := h
  have lk := h6.look Trym.underlying39 (zero3 _) hs
  have h0 : key (el p q) ∉ hist (el p) q hC → suf K n (p + 1) (occL el ln (key (el p q))) + occ (el p) q (key (el p q)) = 0 := fun hn => by
    rw [mem_hist] at hn
    rw [h4 _ (fun h => hn (.inl h)), occ_zero _ _ _ (fun j hj he => hn (.inr ⟨j, hj, he⟩))]; rfl
  rw [useF_getD _ _ _ h0] at lk
  have hb1 := suf_bd K n (p + 1) (occL el ln (key (el p q))) 1048576 (by omega) (by omega) (fun j hj => by
    have := occ_bd (el j) (ln j) (key (el p q)); have := hln j hj; unfold occL; omega)
  have hb2 := occ_bd (el p) q (key (el p q))
  have hb3 := hln p hp
  have hndr : ndr (hist (el p) q hC) < maxLen := by
    have h1 := ndr_le (hist (el p) q hC)
    rw [len_hist] at h1
    unfold maxLen; omega
  obtain ⟨w2, hr2, hm2, hbb⟩ := h6.store Trym.underlying39 hndr hs (.int .i64 (suf K n (p + 1) (occL el ln (key (el p q))) + occ (el p) q (key (el p q)) + 1))
  rw [useF_isSome] at hm2
  refine ⟨_, w2, ?_, ?_, lk, hr2, hbb.below' h1 (by omega), ⟨nd, h2, h3.but hbb (by omega)⟩, hC, h4, h5, ?_⟩
  · omega
  · omega
  · have e1 : ndr (hist (el p) (q + 1) hC) = _ := ndr_step (key (el p q)) (hist (el p) q hC)
    rw [e1]
    exact hm2.congr (useF_upd_new _ _ _ _ _ (by simp [occ]; omega) (fun z hz => by simp [occ, Ne.symm hz]))

/-- The forward loops: h is mentioned. -/
structure Inv3 (wo wx : World) (h : List (List UInt8)) : Prop where
  below : Below wo.heap.size wo wx
  men : MapIs wx wo.heap.size (menF h) (ndr h)
theorem inv3_start (wo : World) : Inv3 wo (wo.alloc (.map #[] 0)) [] := ⟨(Below.refl _ _).alloc (Nat.le_refl _) _, (mapIs_made wo).congr (fun z => by simp [menF])⟩
theorem inv3_in {wo wx : World} {h : List (List UInt8)} {s : ByteArray} (H : Inv3 wo wx h) (hs : s.size ≤ maxLen) (hi : key s ∈ h) :
    (Instr.lookup 43 (.map (some wo.heap.size)) (.string s) false).run Trym.prog wx = .ok (.bool true) wx ∧ ndr (key s :: h) = ndr h ∧ Inv3 wo wx (key s :: h) := by
  have lk := H.men.look Trym.underlying43 (zero4 _) hs
  rw [menF_look, decide_eq_true hi] at lk
  refine ⟨lk, ndr_in h _ hi, H.below, ?_⟩
  rw [ndr_in h _ hi]
  exact H.men.congr (fun z => menF_in h _ z hi)
theorem inv3_new {wo wx : World} {h : List (List UInt8)} {s : ByteArray} (H : Inv3 wo wx h) (hs : s.size ≤ maxLen) (hi : key s ∉ h) (hl : h.length ≤ 2199023255552) :
    (Instr.lookup 43 (.map (some wo.heap.size)) (.string s) false).run Trym.prog wx = .ok (.bool false) wx ∧ ndr (key s :: h) = ndr h + 1 ∧
      ∃ w2, (Instr.mapUpdate 43 (.map (some wo.heap.size)) (.string s) (.bool true)).run Trym.prog wx = .ok () w2 ∧ Inv3 wo w2 (key s :: h) := by
  have lk := H.men.look Trym.underlying43 (zero4 _) hs
  rw [menF_look, decide_eq_false hi] at lk
  have hndr : ndr h < maxLen := by have := ndr_le h; unfold maxLen; omega
  obtain ⟨w2, hr2, hm2, hbb⟩ := H.men.store Trym.underlying43 hndr hs (.bool true)
  rw [menF_isSome, decide_eq_false hi] at hm2
  refine ⟨lk, ndr_new h _ hi, w2, hr2, hbb.below' H.below (Nat.le_refl _), ?_⟩
  rw [ndr_new h _ hi]
  exact hm2.congr (fun z => menF_upd h _ z)

theorem used_last {K : Nat → List UInt8} {za : Nat → Option Addr} {ln : Nat → Nat} {n p : Nat} (hp : prev K n (K p) = some p) : (usedF K za ln n (K p)).getD (.slice none 0 0) = .slice (if 0 < ln p then za p else none) (ln p) (ln p) := by
  unfold usedF
  rw [hp]
  by_cases h : 0 < ln p
  · simp [h]
  · obtain h0 : ln p = 0 := by omega
    simp [h0]
theorem below_drew {B : Nat} {w w' : World} (h : Below B w w') (q : Nat) : Below B w (w'.drewN q) := ⟨h.os, h.tape, h.output, h.size, h.block⟩

theorem suf_skip {K : Nat → List UInt8} {n p : Nat} (hp : prev K n (K p) ≠ some p) (g : Nat → Int) : suf K n p g = suf K n (p + 1) g := by rw [suf_step, atLast, if_neg hp]; omega
theorem suf_take {K : Nat → List UInt8} {n p : Nat} (hp : prev K n (K p) = some p) (g : Nat → Int) : suf K n p g = suf K n (p + 1) g + g p := by rw [suf_step, atLast, if_pos hp]

/-- The two counts at a zone. -/
theorem cnt_look {w wo wx : World} {n : Nat} {K : Nat → List UInt8} {ln : Nat → Nat} {el : Nat → Nat → ByteArray} (h : Inv1 w wo n 0 K ln el) (hb : Below wo.heap.size wo wx) {s : ByteArray} (hs : s.size ≤ maxLen) (X : Int) (hX : tot K n (occL el ln (key s)) = X) (q : Nat) :
    (Instr.lookup 39 (.map (some (w.heap.size + 1))) (.string s) false).run Trym.prog (wx.drewN q) = .ok (.int .i64 X) (wx.drewN q) := by
  obtain ⟨hC, h4, h5, h6⟩ := h.cnt
  have h7 : MapIs (wx.drewN q) (w.heap.size + 1) (useF (fun z => suf K n 0 (occL el ln z)) hC) (ndr hC) := (h6.next hb).of_block rfl
  have lk := h7.look Trym.underlying39 (zero3 _) hs
  rw [useF_getD _ _ _ (h4 _), suf_start, hX] at lk
  exact lk
theorem use_look {w : World} {gP bU bS n nu : Nat} {nm : Nat → ByteArray} {za lv : Nat → Option Addr} {ln : Nat → Nat} {el : Nat → Nat → ByteArray} {a0 a : Option Addr} (st : St w gP bU bS n nu nm za lv ln el a0 a) {s : ByteArray} (hs : s.size ≤ maxLen) (X : Int) (hX : tot (keyN nm) n (occL el ln (key s)) = X) (q : Nat) :
    Calls Trym.prog 15 #[.pointer (some ⟨gP, 0, none⟩), .string s] (w.drewN q) fun r w' => r = .returned (.int .i64 X) ∧ w' = w.drewN q := by
  have st2 := st.next (below_drew (Below.refl w.heap.size w) q)
  refine use_any gP bU bS _ _ s X _ hs st2.plc st2.use ?_
  rw [useF_getD _ _ _ (fun hz => tot_zero _ _ _ _ _ hz), hX]
theorem has_use {w : World} {gP bU bS n nu : Nat} {nm : Nat → ByteArray} {za lv : Nat → Option Addr} {ln : Nat → Nat} {el : Nat → Nat → ByteArray} {a0 a : Option Addr} (st : St w gP bU bS n nu nm za lv ln el a0 a) {k q : Nat} (hk : k < n) (hq : q < ln k) :
    Calls Trym.prog 19 #[.pointer (some ⟨gP, 0, none⟩), .string (el k q)] w fun r w' => r = .returned (.bool true) ∧ w' = w := by
  refine hasUse_any gP bU bS _ _ (el k q) w (st.es k q) st.plc st.use ?_
  rw [useF_isSome, decide_eq_true ((mem_allH el ln n _).2 ⟨k, hk, q, hq, rfl⟩)]

/-- What zzLastWins answers. -/
def LastSaid (w : World) (r : Ending) (w' : World) : Prop := r = .returned (.bool true) ∧ Below w.heap.size w w'

set_option linter.unusedVariables false in
set_option maxHeartbeats 8000000 in
set_option maxRecDepth 8000 in
theorem lastWins_any (gP bU bS n nu : Nat) (nm : Nat → ByteArray) (za lv : Nat → Option Addr) (ln : Nat → Nat) (el : Nat → Nat → ByteArray) (a0 a : Option Addr) (w : World) (st : St w gP bU bS n nu nm za lv ln el a0 a) :
    Calls Trym.prog 12 #[.pointer (some ⟨gP, 0, none⟩), .slice a0 n n, .slice a n n] w (LastSaid w) := by
  have n20 := st.n20
  have ST := hide st
  clear st
  have hmm := @run_makeMap Trym.prog
  have hneq := fun (wx : World) (a : Option Addr) (l c : Nat) => run_neq_slice_nil_any (P := Trym.prog) wx 22 9 a l c 0 0 Trym.underlying22
  go_enter Trym.func12, Trym.ntmps12
  go_wp2
  go_loopw [9, 10] (fun u i wr => ∃ (p : Nat) (U : Int), p ≤ n ∧ U = suf (keyN nm) n p (anyL ln) ∧ u = .int .i64 U ∧ i = .int .i64 ((p : Int) - 1) ∧ Inv1 w wr n p (keyN nm) ln el) (fun _ i _ => (intOf i + 1).toNat)
  case atStart => exact ⟨n, 0, Nat.le_refl _, (suf_end _ _ _).symm, rfl, rfl, inv1_start w n _ ln el⟩
  case round =>
    obtain ⟨p, U, hpn, hU, rfl, rfl, hinv⟩ := hrel
    have HINV := hide hinv
    have st := (unhide ST).next hinv.below
    have hUb := suf_bd (keyN nm) n p (anyL ln) 1 hpn (by omega) (fun j _ => by unfold anyL; split <;> omega)
    rw [← hU] at hUb
    have HU := hide hU
    clear hU
    cases p with
    | zero =>
      obtain ⟨wo, rfl⟩ : ∃ wo : World, wo = wr := ⟨_, rfl⟩
      obtain rfl : U = (nu : Int) := by rw [unhide HU, suf_start, st.usedN]
      have ST1 := hide st
      clear st hinv
      go_wp2_with (first
        | (go_at_call 14
           refine (lenUsed_any gP bU bS nu _ wo (unhide ST1).plc (unhide ST1).used).mono ?_
           rintro e w' ⟨rfl, hw⟩
           obtain rfl := hw.symm))
      go_loopw [14, 15] (fun d i wx => ∃ (k dn : Nat), k ≤ n ∧ dn = ndr (allH el ln k) ∧ d = .int .i64 dn ∧ i = .int .i64 k ∧ Inv3 wo wx (allH el ln k)) (fun _ i _ => n - (intOf i).toNat)
      case atStart => exact ⟨0, 0, Nat.zero_le _, rfl, rfl, rfl, inv3_start wo⟩
      case round =>
        obtain ⟨k, dn, hk, hdn, rfl, rfl, hinv3⟩ := hrel
        have HINV3 := hide hinv3
        have HDN := hide hdn
        have st3 := (unhide ST1).next hinv3.below
        have ST3 := hide st3
        obtain ⟨wk, rfl⟩ : ∃ wk : World, wk = wr := ⟨_, rfl⟩
        by_cases hlt : k < n
        · have hk20 := st3.ln20 k hlt
          have hkl := len_allH el ln k n (by omega) st3.ln20
          obtain ⟨b1, off1, rfl, hc1⟩ := st3.lists.at (k := k) hlt
          clear hinv3 st3 hdn hc1
          go_wp2
          go_loopw [14, 16] (fun d j wx => ∃ (q dn : Nat), q ≤ ln k ∧ dn = ndr (hist (el k) q (allH el ln k)) ∧ d = .int .i64 dn ∧ j = .int .i64 q ∧ Inv3 wo wx (hist (el k) q (allH el ln k))) (fun _ j _ => ln k - (intOf j).toNat)
          case atStart => exact ⟨0, dn, Nat.zero_le _, unhide HDN, rfl, rfl, unhide HINV3⟩
          case round =>
            obtain ⟨q, dq, hq, hdq, rfl, rfl, hinv4⟩ := hrel
            have HINV4 := hide hinv4
            have HDQ := hide hdq
            have st4 := (unhide ST1).next hinv4.below
            have ST4 := hide st4
            obtain ⟨b2, off2, hoo, hc2⟩ := st4.lists.at (k := k) hlt
            injection hoo with hoo
            injection hoo with e1 e2
            subst e1 e2
            have hl2 := (hc2 k hlt).1
            have hqn := len_hist (el k) q (allH el ln k)
            have hdb : dq ≤ 2199023255552 := by have := ndr_le (hist (el k) q (allH el ln k)); omega
            by_cases hql : q < ln k
            · obtain ⟨b4, off4, hoo4, hc4⟩ := (hc2 k hlt).2.at hql
              rw [hoo4] at hl2
              have hcq := hc4 q hql
              obtain ⟨X, hX⟩ : ∃ X, tot (keyN nm) n (occL el ln (key (el k q))) = X := ⟨_, rfl⟩
              by_cases hin : key (el k q) ∈ hist (el k) q (allH el ln k)
              · obtain ⟨hlk, hnd, hinv5⟩ := inv3_in hinv4 (st4.es k q) hin
                have HINV5 := hide hinv5
                have HND := hide hnd
                have hct := cnt_look (unhide HINV) hinv4.below (st4.es k q) X hX
                have HX := hide hX
                have HIN := hide hin
                clear hinv4 hinv5 st4 hc2 hc4 hoo4 hdq hqn hnd hX hin
                go_wp2_with (first
                  | (go_at_call 19
                     refine (has_use (unhide ST4) hlt hql).mono ?_
                     rintro e w' ⟨rfl, hw⟩
                     obtain rfl := hw.symm))
                go_quiet (first | (go_at_call 15; refine Calls.quiet_of_same (use_look (unhide ST4) ((unhide ST4).es k q) X (unhide HX) _)))
                go_wp2
                go_roundw
                case rel => exact ⟨q + 1, dq, by omega, (unhide HDQ).trans (unhide HND).symm, rfl, by go_num, below_drew (unhide HINV5).below _, (unhide HINV5).men.of_block rfl⟩
                case measure => simp [intOf]; omega
              · obtain ⟨hlk, hnd, w5, hup, hinv5⟩ := inv3_new hinv4 (st4.es k q) hin (by omega)
                have HINV5 := hide hinv5
                have HND := hide hnd
                have hct := cnt_look (unhide HINV) hinv5.below (st4.es k q) X hX
                have HX := hide hX
                have HIN := hide hin
                have ST5 := hide ((unhide ST1).next hinv5.below)
                clear hinv4 hinv5 st4 hc2 hc4 hoo4 hdq hqn hnd hX hin
                go_wp2_with (first
                  | (go_at_call 19
                     refine (has_use (unhide ST5) hlt hql).mono ?_
                     rintro e w' ⟨rfl, hw⟩
                     obtain rfl := hw.symm))
                go_quiet (first | (go_at_call 15; refine Calls.quiet_of_same (use_look (unhide ST5) ((unhide ST5).es k q) X (unhide HX) _)))
                go_wp2
                go_roundw
                case rel => exact ⟨q + 1, dq + 1, by omega, by rw [unhide HDQ]; exact (unhide HND).symm, by go_num, by go_num, below_drew (unhide HINV5).below _, (unhide HINV5).men.of_block rfl⟩
                case measure => simp [intOf]; omega
            · obtain rfl : q = ln k := by omega
              clear hinv4 st4 hc2 hdq hqn
              go_wp2
              go_roundw
              case rel => exact ⟨k + 1, dq, by omega, unhide HDQ, rfl, by go_num, unhide HINV4⟩
              case measure => simp [intOf]; omega
        · obtain rfl : k = n := by omega
          clear hinv3 st3 hdn
          go_wp2_with (first
            | (go_at_call 20
               refine (lenUse_any gP bU bS (ndr (allH el ln k)) _ wk (unhide ST3).plc (unhide ST3).use).mono ?_
               rintro e w' ⟨rfl, hw⟩
               obtain rfl := hw.symm))
          go_ret
          refine ⟨?_, ?_⟩
          · rw [unhide HDN]; simp
          · exact (unhide HINV).below.trans ((unhide HINV3).below.mono (unhide HINV).below.size)
    | succ p =>
      have hi0 : ((p + 1 : Nat) : Int) - 1 = (p : Int) := by omega
      rw [hi0]
      obtain ⟨b, off, rfl, hc⟩ := st.names.at (k := p) (by omega)
      have hcp := hc p (by omega)
      have lk := (hinv.done.choose_spec).2.look Trym.underlying43 (zero4 wr) (st.ns p)
      rw [show key (nm p) = keyN nm p from rfl, doneF_look _ _ _ (by omega)] at lk
      by_cases hp : prev (keyN nm) n (keyN nm p) = some p
      · rw [decide_eq_true hp] at lk
        obtain ⟨nd, hnd, hdm⟩ := hinv.done
        obtain ⟨w2, hr2, hm2, hb2⟩ := hdm.store Trym.underlying43 (show nd < maxLen by unfold maxLen; omega) (st.ns p) (.bool true)
        rw [show key (nm p) = keyN nm p from rfl, doneF_none _ _ _ hp, if_neg (by simp)] at hm2
        have hbel2 := hb2.below' hinv.below (Nat.le_refl _)
        have st2 := (unhide ST).next hbel2
        have ST2 := hide st2
        have HM2 := hide hm2
        have HB2 := hide hb2
        obtain ⟨b1, off1, rfl, hc1⟩ := st2.lists.at (k := p) (by omega)
        have hl2 := (hc1 p (by omega)).1
        obtain ⟨b2, off2, hoo, hc2⟩ := st2.names.at (k := p) (by omega)
        injection hoo with hoo
        injection hoo with e1 e2
        subst e1 e2
        have hcp2 := hc2 p (by omega)
        have hp20 := st2.ln20 p (by omega)
        by_cases hz : ln p = 0
        · rw [hz] at hl2
          have HL := hide hz
          clear st st2 hinv hc hdm hm2 hb2 hc1 hc2 hbel2 hz
          go_wp2_with (first
            | (go_at_call 17
               refine (used_any gP bU bS nu _ (nm p) (if 0 < ln p then za p else none) (ln p) w2 ((unhide ST2).ns p) (unhide ST2).plc (unhide ST2).used (used_last hp)).mono ?_
               rintro e w' ⟨rfl, hw⟩
               obtain rfl := hw.symm
               rw [unhide HL]
               simp only [Nat.lt_irrefl, if_false]))
          go_roundw
          case rel => exact ⟨p, U, by omega, by rw [unhide HU, suf_take hp]; simp [anyL, unhide HL], rfl, by go_num, inv1_none (unhide HINV) hp (unhide HL) (unhide HB2) (by omega) (unhide HM2)⟩
          case measure => simp [intOf]
        · have hpos : 0 < ln p := by omega
          have hpi : decide ((ln p : Int) = 0) = false := decide_eq_false (by omega)
          clear st st2 hinv hc hdm hm2 hb2 hc1 hc2 hbel2
          go_wp2_with (first
            | (go_at_call 17
               refine (used_any gP bU bS nu _ (nm p) (if 0 < ln p then za p else none) (ln p) w2 ((unhide ST2).ns p) (unhide ST2).plc (unhide ST2).used (used_last hp)).mono ?_
               rintro e w' ⟨rfl, hw⟩
               obtain rfl := hw.symm
               simp only [hpos, if_true])
            | (go_at_call 18
               refine (equal_same (za p) (lv p) (ln p) (el p) w2 hp20 ((unhide ST2).zones p (by omega)) (((unhide ST2).lists.at (k := p) (by omega)).choose_spec.choose_spec.2 p (by omega)).2).mono ?_
               rintro e w3 ⟨rfl, hw3⟩
               have HW3 := hide hw3
               clear hw3))
          obtain ⟨wo, rfl⟩ : ∃ wo : World, wo = wr := ⟨_, rfl⟩
          go_loopw [12] (fun j wx => ∃ q : Nat, q ≤ ln p ∧ j = .int .i64 q ∧ Inv2 w wx n p q (keyN nm) ln el) (fun j _ => ln p - (intOf j).toNat)
          case atStart => exact ⟨0, Nat.zero_le _, rfl, inv2_start (unhide HINV) hp (unhide HB2) (by omega) (unhide HM2) (unhide HW3)⟩
          case round =>
            obtain ⟨q, hq, rfl, hinv2⟩ := hrel
            have HINV2 := hide hinv2
            have st3 := (unhide ST).next hinv2.below
            have ST3 := hide st3
            obtain ⟨b3, off3, hoo, hc3⟩ := st3.lists.at (k := p) (by omega)
            injection hoo with hoo
            injection hoo with e1 e2
            subst e1 e2
            have hl3 := (hc3 p (by omega)).1
            by_cases hlt : q < ln p
            · obtain ⟨b4, off4, hoo4, hc4⟩ := (hc3 p (by omega)).2.at hlt
              rw [hoo4] at hl3
              have hcq := hc4 q hlt
              obtain ⟨x, w4, hx0, hx1, hlk4, hup4, hinv4⟩ := inv2_step hinv2 (by omega) n20 hlt st3.ln20 (st3.es p q)
              have HINV4 := hide hinv4
              clear hinv2 hinv4 st3 hc3 hc4 hoo4
              go_wp2
              go_roundw
              case rel => exact ⟨q + 1, by omega, by go_num, unhide HINV4⟩
              case measure => simp [intOf]; omega
            · obtain rfl : q = ln p := by omega
              clear hinv2 st3 hc3
              go_wp2
              go_roundw
              case rel => exact ⟨p, U + 1, by omega, by rw [unhide HU, suf_take hp]; simp [anyL, hpos], by go_num, by go_num, inv2_end (unhide HINV2) hp hp20⟩
              case measure => simp [intOf]
      · rw [decide_eq_false hp] at lk
        clear st hinv hc
        go_wp2
        go_roundw
        case rel => exact ⟨p, U, by omega, by rw [unhide HU, suf_skip hp], rfl, by go_num, inv1_skip (unhide HINV) hp⟩
        case measure => simp [intOf]
end Go.Proofs.Qxb6601051aMods
