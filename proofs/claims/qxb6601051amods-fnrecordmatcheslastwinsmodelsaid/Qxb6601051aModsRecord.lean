/- Seat b6601051aM: (*Placer).record and the shims around it. -/
import Derived.Test.Qxb6601051aModsLists
namespace Go.Proofs.Qxb6601051aMods
open Go.RowKit

/-! ### plain: counts and histories -/
/-- How often z stands among the first k of e. -/
def occ (e : Nat → ByteArray) : Nat → List UInt8 → Int
  | 0, _ => 0
  | k + 1, z => occ e k z + if key (e k) = z then 1 else 0
/-- The first k of e, the newest first, ahead of h. -/
def hist (e : Nat → ByteArray) : Nat → List (List UInt8) → List (List UInt8)
  | 0, h => h
  | k + 1, h => key (e k) :: hist e k h
/-- How many different ones. -/
def ndr : List (List UInt8) → Nat
  | [] => 0
  | z :: r => ndr r + if z ∈ r then 0 else 1
theorem occ_bd (e : Nat → ByteArray) (k : Nat) (z : List UInt8) : 0 ≤ occ e k z ∧ occ e k z ≤ k := by
  induction k with
  | zero => simp [occ]
  | succ k ih => unfold occ; split <;> omega
theorem occ_zero (e : Nat → ByteArray) (k : Nat) (z : List UInt8) (h : ∀ j, j < k → key (e j) ≠ z) : occ e k z = 0 := by
  induction k with
  | zero => rfl
  | succ k ih => unfold occ; rw [ih (fun j hj => h j (by omega)), if_neg (h k (by omega))]; rfl
theorem mem_hist (e : Nat → ByteArray) (k : Nat) (h : List (List UInt8)) (z : List UInt8) : z ∈ hist e k h ↔ z ∈ h ∨ ∃ j, j < k ∧ key (e j) = z := by
  induction k with
  | zero => simp [hist]
  | succ k ih =>
    unfold hist
    rw [List.mem_cons, ih]
    constructor
    · rintro (h1 | h1 | ⟨j, hj, h1⟩)
      · exact .inr ⟨k, by omega, h1.symm⟩
      · exact .inl h1
      · exact .inr ⟨j, by omega, h1⟩
    · rintro (h1 | ⟨j, hj, h1⟩)
      · exact .inr (.inl h1)
      · by_cases e1 : j = k
        · subst e1; exact .inl h1.symm
        · exact .inr (.inr ⟨j, by omega, h1⟩)
theorem ndr_step (z : List UInt8) (r : List (List UInt8)) : ndr (z :: r) = if decide (z ∈ r) = true then ndr r else ndr r + 1 := by
  show (ndr r + if z ∈ r then 0 else 1) = _
  by_cases hm : z ∈ r <;> simp [hm]
theorem ndr_le (h : List (List UInt8)) : ndr h ≤ h.length := by
  induction h with
  | nil => simp [ndr]
  | cons z r ih => unfold ndr; simp only [List.length_cons]; split <;> omega
theorem len_hist (e : Nat → ByteArray) (k : Nat) (h : List (List UInt8)) : (hist e k h).length = h.length + k := by
  induction k with
  | zero => rfl
  | succ k ih => unfold hist; rw [List.length_cons, ih]; omega

/-- The count table. -/
def useF (c : List UInt8 → Int) (h : List (List UInt8)) (z : List UInt8) : Option Value := if z ∈ h then some (.int .i64 (c z)) else none
theorem useF_getD (c : List UInt8 → Int) (h : List (List UInt8)) (z : List UInt8) (h0 : z ∉ h → c z = 0) : (useF c h z).getD (.int .i64 0) = .int .i64 (c z) := by
  unfold useF
  by_cases hz : z ∈ h
  · rw [if_pos hz]; rfl
  · rw [if_neg hz, h0 hz]; rfl
theorem useF_isSome (c : List UInt8 → Int) (h : List (List UInt8)) (z : List UInt8) : (useF c h z).isSome = decide (z ∈ h) := by
  unfold useF; split <;> simp [*]

/-- A turn of the table at a key that is there. -/
theorem useF_upd_in (c c' : List UInt8 → Int) (h : List (List UInt8)) (k : List UInt8) (x : Int) (hk : k ∈ h) (hx : c' k = x) (ho : ∀ z, z ≠ k → c' z = c z) (z : List UInt8) : upd (useF c h) k (some (.int .i64 x)) z = useF c' h z := by
  unfold upd useF
  by_cases e : z = k
  · subst e; rw [if_pos rfl, if_pos hk, hx]
  · rw [if_neg e, ho z e]
theorem useF_upd_new (c c' : List UInt8 → Int) (h : List (List UInt8)) (k : List UInt8) (x : Int) (hx : c' k = x) (ho : ∀ z, z ≠ k → c' z = c z) (z : List UInt8) : upd (useF c h) k (some (.int .i64 x)) z = useF c' (k :: h) z := by
  unfold upd useF
  by_cases e : z = k
  · subst e; rw [if_pos rfl, if_pos (by simp), hx]
  · rw [if_neg e, ho z e]
    by_cases hz : z ∈ h
    · rw [if_pos hz, if_pos (by simp [hz])]
    · rw [if_neg hz, if_neg (by simp [hz, e])]

/-! ### worlds -/
theorem cell_ne_map {w : World} {b n g i : Nat} {f : List UInt8 → Option Value} {v : Value} (h : MapIs w b f n) (hc : w.cell? ⟨g, i, none⟩ = some v) : g ≠ b := by
  obtain ⟨D, ⟨es, clock, h1, r⟩, r2⟩ := h
  intro e
  subst e
  simp [World.cell?, h1] at hc
theorem But.cell {g : Nat} {w w' : World} (h : But g w w') {b i : Nat} {v : Value} (hb : b ≠ g) (hc : w.cell? ⟨b, i, none⟩ = some v) : w'.cell? ⟨b, i, none⟩ = some v := (World.cell?_of_block (h.block b hb)).trans hc
theorem Has.but {w w' : World} {a : Option Addr} {l c : Nat} {e : Nat → ByteArray} (h : Has w a l c e) {b n : Nat} {f : List UInt8 → Option Value} (hm : MapIs w b f n) (hb : But b w w') : Has w' a l c e := by
  rcases h with h | ⟨x, h1, h2⟩
  · exact .inl h
  · refine .inr ⟨x, h1, fun i hi => ?_⟩
    have hc := h2 i hi
    have hne : (x.add i).block ≠ b := by
      intro e
      obtain ⟨D, ⟨es, clock, hm1, r⟩, r2⟩ := hm
      simp [World.cell?, e, hm1] at hc
    exact (World.cell?_of_block (hb.block _ hne)).trans hc
theorem MapIs.but {w w' : World} {b n g : Nat} {f : List UInt8 → Option Value} (h : MapIs w b f n) (hb : But g w w') (hne : b ≠ g) : MapIs w' b f n := h.of_block (hb.block b hne)

/-- w' is w but for the two maps. -/
structure But2 (b1 b2 : Nat) (w w' : World) : Prop where
  os : w'.os = w.os
  tape : w'.tape = w.tape
  output : w'.output = w.output
  size : w'.heap.size = w.heap.size
  block : ∀ k, k ≠ b1 → k ≠ b2 → w'.heap[k]? = w.heap[k]?
theorem But.two1 {b1 b2 : Nat} {w w' : World} (h : But b1 w w') : But2 b1 b2 w w' := ⟨h.os, h.tape, h.output, h.size, fun k h1 _ => h.block k h1⟩
theorem But.two2 {b1 b2 : Nat} {w w' : World} (h : But b2 w w') : But2 b1 b2 w w' := ⟨h.os, h.tape, h.output, h.size, fun k _ h2 => h.block k h2⟩
theorem But2.trans {b1 b2 : Nat} {a b c : World} (h : But2 b1 b2 a b) (k : But2 b1 b2 b c) : But2 b1 b2 a c :=
  ⟨k.os.trans h.os, k.tape.trans h.tape, k.output.trans h.output, k.size.trans h.size, fun i h1 h2 => (k.block i h1 h2).trans (h.block i h1 h2)⟩

theorem zero22 (w : World) : (zeroValue 22).run Trym.prog w = .ok (.slice none 0 0) w := by kernel_rfl
theorem zero3 (w : World) : (zeroValue 3).run Trym.prog w = .ok (.int .i64 0) w := by kernel_rfl
theorem zero4 (w : World) : (zeroValue 4).run Trym.prog w = .ok (.bool false) w := by kernel_rfl

/-- The placer: its two maps. -/
structure Plc (w : World) (gP bU bS : Nat) : Prop where
  c2 : w.cell? ⟨gP, 2, none⟩ = some (.map (some bU))
  c3 : w.cell? ⟨gP, 3, none⟩ = some (.map (some bS))
theorem Plc.but {w w' : World} {gP bU bS b n : Nat} {f : List UInt8 → Option Value} (h : Plc w gP bU bS) (hm : MapIs w b f n) (hb : But b w w') : Plc w' gP bU bS :=
  ⟨hb.cell (cell_ne_map hm h.c2) h.c2, hb.cell (cell_ne_map hm h.c3) h.c3⟩

/-- The table of zones behind a record. -/
def nextU (uf : List UInt8 → Option Value) (k : List UInt8) (za : Option Addr) (zl : Nat) : List UInt8 → Option Value := upd uf k (if 0 < zl then some (.slice za zl zl) else none)
/-- Its size. -/
def nextN (nu zl : Nat) (there : Bool) : Nat := if 0 < zl then (if there then nu else nu + 1) else (if there then nu - 1 else nu)

set_option linter.unusedVariables false in
set_option maxHeartbeats 2000000 in
theorem record_any (gP bU bS : Nat) (uf : List UInt8 → Option Value) (nu : Nat) (c : List UInt8 → Int) (h : List (List UInt8)) (s : ByteArray) (za : Option Addr) (zl : Nat) (ze : Nat → ByteArray) (oa : Option Addr) (ol : Nat) (oe : Nat → ByteArray) (w : World)
    (hne : bU ≠ bS) (hP : Plc w gP bU bS) (hU : MapIs w bU uf nu) (hS : MapIs w bS (useF c h) (ndr h))
    (hold : (uf (key s)).getD (.slice none 0 0) = .slice oa ol ol) (hoh : Has w oa ol ol oe) (homem : ∀ j, j < ol → key (oe j) ∈ h) (hz : Has w za zl zl ze)
    (hs : s.size ≤ maxLen) (hos : ∀ j, (oe j).size ≤ maxLen) (hzs : ∀ j, (ze j).size ≤ maxLen) (hol : ol ≤ 1048576) (hzl : zl ≤ 1048576)
    (hc0 : ∀ z, z ∉ h → c z = 0) (hcb : ∀ z, -2199023255552 ≤ c z ∧ c z ≤ 2199023255552) (hhl : h.length ≤ 2199023255552) (hnu : nu ≤ 2199023255552) :
    Calls Trym.prog 16 #[.pointer (some ⟨gP, 0, none⟩), .string s, .slice za zl zl] w fun r w' => r = .returned (.tuple #[]) ∧
      MapIs w' bU (nextU uf (key s) za zl) (nextN nu zl (uf (key s)).isSome) ∧
      MapIs w' bS (useF (fun z => c z - occ oe ol z + occ ze zl z) (hist ze zl h)) (ndr (hist ze zl h)) ∧ But2 bU bS w w' := by
  have p2 := hP.c2
  have lk0 := hU.look Trym.underlying38 (zero22 w) hs
  rw [hold] at lk0
  have HP := hide hP
  have HU := hide hU
  have HS := hide hS
  have HOH := hide hoh
  have HOM := hide homem
  have HZ := hide hz
  have HOS := hide hos
  have HZS := hide hzs
  have HC0 := hide hc0
  have HCB := hide hcb
  clear hP hU hS hold hoh homem hz hos hzs hc0 hcb
  go_enter Trym.func16, Trym.ntmps16
  go_wp2
  go_loopw [17] (fun i wr => ∃ j : Nat, j ≤ ol ∧ i = .int .i64 j ∧ MapIs wr bS (useF (fun z => c z - occ oe j z) h) (ndr h) ∧ But bS w wr) (fun i _ => ol - (intOf i).toNat)
  case atStart => exact ⟨0, Nat.zero_le _, rfl, (unhide HS).congr (fun z => by simp [occ]), But.refl _ _⟩
  case round =>
    obtain ⟨j, hj, rfl, hSj, hbut⟩ := hrel
    have HSJ := hide hSj
    have HBUT := hide hbut
    have hp3 := ((unhide HP).but (unhide HS) hbut).c3
    by_cases hlt : j < ol
    · obtain ⟨b, off, rfl, hc⟩ := (((unhide HOH).but (unhide HS) hbut)).at hlt
      have hcj := hc j hlt
      have hin := (unhide HOM) j hlt
      have lk := hSj.look Trym.underlying39 (zero3 wr) ((unhide HOS) j)
      rw [useF_getD _ _ _ (fun hn => absurd hin hn)] at lk
      have hcz := (unhide HCB) (key (oe j))
      have hoz := occ_bd oe j (key (oe j))
      have hndr : ndr h < maxLen := by have := ndr_le h; unfold maxLen; omega
      obtain ⟨w2, hr2, hm2, hb2⟩ := hSj.store Trym.underlying39 hndr ((unhide HOS) j) (.int .i64 (c (key (oe j)) - occ oe j (key (oe j)) - 1))
      rw [useF_isSome, decide_eq_true hin, if_pos rfl] at hm2
      have HM2 : Hid (MapIs w2 bS (useF (fun z => c z - occ oe (j + 1) z) h) (ndr h)) := hm2.congr (useF_upd_in _ _ _ _ _ hin (by simp [occ]; omega) (fun z hz => by simp [occ, Ne.symm hz]))
      have HB2 := hide hb2
      generalize hx : c (key (oe j)) - occ oe j (key (oe j)) = x at *
      have hx1 : -2199024304128 ≤ x ∧ x ≤ 2199023255552 := by omega
      clear hSj hbut hc hm2 hb2 hcz hoz hx
      go_wp2
      go_roundw
      case rel => exact ⟨j + 1, by omega, by go_num, unhide HM2, (unhide HBUT).trans (unhide HB2)⟩
      case measure => simp [intOf]; omega
    · obtain rfl : j = ol := by omega
      obtain ⟨wo, rfl⟩ : ∃ wo : World, wo = wr := ⟨_, rfl⟩
      clear hSj hbut
      go_wp2
      go_loopw [31] (fun i wx => ∃ q : Nat, q ≤ zl ∧ i = .int .i64 q ∧ MapIs wx bS (useF (fun z => c z - occ oe j z + occ ze q z) (hist ze q h)) (ndr (hist ze q h)) ∧ But bS w wx) (fun i _ => zl - (intOf i).toNat)
      case atStart => exact ⟨0, Nat.zero_le _, rfl, (unhide HSJ).congr (fun z => by simp [occ, hist]), unhide HBUT⟩
      case round =>
        obtain ⟨q, hq, rfl, hSq, hbut⟩ := hrel
        have HSQ := hide hSq
        have HBUTQ := hide hbut
        have hp3 := ((unhide HP).but (unhide HS) hbut).c3
        have hp2 := ((unhide HP).but (unhide HS) hbut).c2
        by_cases hlt2 : q < zl
        · obtain ⟨b, off, rfl, hc⟩ := (((unhide HZ).but (unhide HS) hbut)).at hlt2
          have hcq := hc q hlt2
          have lk := hSq.look Trym.underlying39 (zero3 _) ((unhide HZS) q)
          rw [useF_getD _ _ _ (fun hn => by
            have h1 : key (ze q) ∉ h := fun hh => hn ((mem_hist _ _ _ _).2 (.inl hh))
            have h2 : ∀ i, i < q → key (ze i) ≠ key (ze q) := fun i hi e => hn ((mem_hist _ _ _ _).2 (.inr ⟨i, hi, e⟩))
            have h3 : ∀ i, i < j → key (oe i) ≠ key (ze q) := fun i hi e => h1 (e ▸ (unhide HOM) i hi)
            rw [(unhide HC0) _ h1, occ_zero _ _ _ h2, occ_zero _ _ _ h3]; rfl)] at lk
          have hcz := (unhide HCB) (key (ze q))
          have hoz := occ_bd oe j (key (ze q))
          have hzz := occ_bd ze q (key (ze q))
          have hndr : ndr (hist ze q h) < maxLen := by
            have h1 := ndr_le (hist ze q h)
            rw [len_hist] at h1
            unfold maxLen; omega
          obtain ⟨w2, hr2, hm2, hb2⟩ := hSq.store Trym.underlying39 hndr ((unhide HZS) q) (.int .i64 (c (key (ze q)) - occ oe j (key (ze q)) + occ ze q (key (ze q)) + 1))
          rw [useF_isSome] at hm2
          have HM2 : Hid (MapIs w2 bS (useF (fun z => c z - occ oe j z + occ ze (q + 1) z) (hist ze (q + 1) h)) (ndr (hist ze (q + 1) h))) := by
            have e1 : ndr (hist ze (q + 1) h) = _ := ndr_step (key (ze q)) (hist ze q h)
            rw [e1]
            exact hm2.congr (useF_upd_new _ _ _ _ _ (by simp [occ]; omega) (fun z hz => by simp [occ, Ne.symm hz]))
          have HB2 := hide hb2
          generalize hx : c (key (ze q)) - occ oe j (key (ze q)) + occ ze q (key (ze q)) = x at *
          have hx1 : -2199024304128 ≤ x ∧ x ≤ 2199024304128 := by omega
          clear hSq hbut hc hm2 hb2 hcz hoz hzz hx
          go_wp2
          go_roundw
          case rel => exact ⟨q + 1, by omega, by go_num, unhide HM2, (unhide HBUTQ).trans (unhide HB2)⟩
          case measure => simp [intOf]; omega
        · obtain rfl : q = zl := by omega
          have hUq := (unhide HU).but hbut hne
          have hnul : nu < maxLen := by unfold maxLen; omega
          by_cases hpos : 0 < q
          · obtain ⟨w2, hr2, hm2, hb2⟩ := hUq.store Trym.underlying38 hnul hs (.slice za q q)
            have HM2 := hide hm2
            have HS2 := hide (hSq.but hb2 (Ne.symm hne))
            have HB2 := hide hb2
            have qi : (0 : Int) < (q : Int) := by omega
            clear hSq hbut hm2 hb2 hUq
            go_wp2
            go_end0
            refine ⟨rfl, ?_, unhide HS2, (unhide HBUTQ).two2.trans (unhide HB2).two1⟩
            unfold nextU nextN
            rw [if_pos hpos, if_pos hpos]
            exact unhide HM2
          · obtain ⟨w2, hr2, hm2, hb2⟩ := hUq.drop Trym.underlying38 hs 0
            have HM2 := hide hm2
            have HS2 := hide (hSq.but hb2 (Ne.symm hne))
            have HB2 := hide hb2
            have qi : ¬ (0 : Int) < (q : Int) := by omega
            clear hSq hbut hm2 hb2 hUq
            go_wp2
            go_end0
            refine ⟨rfl, ?_, unhide HS2, (unhide HBUTQ).two2.trans (unhide HB2).two1⟩
            unfold nextU nextN
            rw [if_neg hpos, if_neg hpos]
            exact unhide HM2
end Go.Proofs.Qxb6601051aMods
