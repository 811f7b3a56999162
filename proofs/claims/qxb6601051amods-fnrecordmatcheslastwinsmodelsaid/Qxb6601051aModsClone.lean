/- Seat b6601051aM: zzCloneStrings, zzCloneLists; the counters of bytes. -/
import Derived.Test.Qxb6601051aModsLaws
namespace Go.Proofs.Qxb6601051aMods
open Go.RowKit

theorem Trym.info9 : (Trym.prog.info? 9).map (fun i => (i.zero, i.size, i.bytes)) = some (some (.string ⟨#[]⟩), 1, 16) := by kernel_rfl
theorem Trym.info22 : (Trym.prog.info? 22).map (fun i => (i.zero, i.size, i.bytes)) = some (some (.slice none 0 0), 1, 24) := by kernel_rfl

theorem made_new (z : Value) (hz : z.cells = #[z]) (w : World) (n : Nat) (e : TypeId) : NewB w (w.alloc (.cells (madeCells z.cells n) e)) w.heap.size n (fun _ => z) := by
  have h : madeCells z.cells n = arr n (fun _ => z) := arr_ext n _ _ (size_madeCells _ _) (fun i hi => by rw [hz]; simp [madeCells, hi, Nat.mod_one])
  rw [h]
  exact newB_alloc w n _ e

/-- 'make([]T, n)', T of one cell, n a variable. -/
theorem wpList_make_one {P : Program} {w : World} {ops : Array Oper} {rest : List Oper} {o : Oper} {a : Act} {Q : Exit → Act → World → Prop}
    (hg : o.guard = none) (l c : Operand) (t : TypeId) (hop : o.op = Op.makeSlice t l c) (e : TypeId) (z : Value) (hz1 : z.cells = #[z]) (bytes : Nat) (h1 : P.underlying t = some (.slice e))
    (h2 : (P.info? e).map (fun i => (i.zero, i.size, i.bytes)) = some (some z, 1, bytes)) (kl kc : IntKind) (n : Nat) (hl : a.eval l = .int kl (n : Int)) (hc : a.eval c = .int kc (n : Int)) (b1 : bytes * n ≤ 281474976710656) (b2 : n ≤ 9223372036854775807)
    (hK : ∀ w' g, NewB w w' g n (fun _ => z) → wpList P ops Q rest (a.put o.dst (.slice (some ⟨g, 0, none⟩) n n)) w') :
    wpList P ops Q (o :: rest) a w := by
  refine wpList_plain hg fun K hK' => ?_
  obtain ⟨i, hi, hz, hs, hby⟩ := info_parts h2
  have hb' : (i.bytes : Int) * (n : Int) ≤ 281474976710656 := by
    have h : ((i.bytes * n : Nat) : Int) ≤ 281474976710656 := by rw [hby]; omega
    rwa [Int.natCast_mul] at h
  have hr := run_make (P := P) w t e i z h1 hi hz kl kc n n (by omega) (Int.le_refl _) hb' (by omega)
  simp only [Int.toNat_natCast, hs, Nat.mul_one] at hr
  unfold Oper.wp
  simp [execOp, hop, hl, hc, hr, Result.andThen]
  exact hK' _ _ (hK _ _ (made_new z hz1 w n e))

/-- Strings as values. -/
def strs (e : Nat → ByteArray) (i : Nat) : Value := .string (e i)
/-- The slice's l strings lie in a block of their own, from B on. -/
def Cont (B : Nat) (w : World) (a : Option Addr) (l : Nat) (e : Nat → ByteArray) : Prop := l = 0 ∨ ∃ b, a = some ⟨b, 0, none⟩ ∧ B ≤ b ∧ Blk w b l (strs e)
theorem Cont.next {B : Nat} {w w' : World} {a : Option Addr} {l : Nat} {e : Nat → ByteArray} (h : Cont B w a l e) (hb : Below w.heap.size w w') : Cont B w' a l e := by
  rcases h with h | ⟨b, h1, h2, h3⟩
  · exact .inl h
  · exact .inr ⟨b, h1, h2, below_blk hb h3.lt h3⟩
theorem Cont.but {B g : Nat} {w w' : World} {a : Option Addr} {l : Nat} {e : Nat → ByteArray} (h : Cont B w a l e) (hb : But g w w') (hg : g < B) : Cont B w' a l e := by
  rcases h with h | ⟨b, h1, h2, h3⟩
  · exact .inl h
  · exact .inr ⟨b, h1, h2, hb.blk (by omega) h3⟩
theorem Cont.mono {B B' : Nat} {w : World} {a : Option Addr} {l : Nat} {e : Nat → ByteArray} (h : Cont B w a l e) (hB : B' ≤ B) : Cont B' w a l e := by
  rcases h with h | ⟨b, h1, h2, h3⟩
  · exact .inl h
  · exact .inr ⟨b, h1, by omega, h3⟩

/-- The slice as it came in holds the l strings e 0, e 1, .. -/
def Has (w : World) (a : Option Addr) (l c : Nat) (e : Nat → ByteArray) : Prop := (a = none ∧ l = 0 ∧ c = 0) ∨ ∃ x, a = some x ∧ ∀ i, i < l → w.cell? (x.add i) = some (.string (e i))
theorem Has.next {w w' : World} {a : Option Addr} {l c : Nat} {e : Nat → ByteArray} (h : Has w a l c e) (hb : Below w.heap.size w w') : Has w' a l c e := by
  rcases h with h | ⟨x, h1, h2⟩
  · exact .inl h
  · exact .inr ⟨x, h1, fun i hi => cell_later hb (h2 i hi)⟩
theorem Cont.has {B : Nat} {w : World} {a : Option Addr} {l : Nat} {e : Nat → ByteArray} (h : Cont B w a l e) : Has w a l l e := by
  rcases h with rfl | ⟨b, rfl, _, h3⟩
  · cases a with
    | none => exact .inl ⟨rfl, rfl, rfl⟩
    | some x => exact .inr ⟨x, rfl, fun i hi => by omega⟩
  · exact .inr ⟨_, rfl, fun i hi => by rw [Addr.add_lit, Nat.zero_add]; exact h3.cell i hi⟩

set_option maxHeartbeats 400000 in
theorem clone_nil (w : World) : Calls Trym.prog 8 #[.slice none 0 0] w fun e w' => e = .returned (.slice none 0 0) ∧ w' = w := by
  have heql := fun (wx : World) (a : Option Addr) (l c : Nat) => Lib.run_eql_slice_nil (P := Trym.prog) wx 22 9 a l c 0 0 Trym.underlying22
  go_enter Trym.func8, Trym.ntmps8
  go_wp2
  go_ret
  exact ⟨rfl, rfl⟩

set_option maxHeartbeats 400000 in
theorem clone_empty (x : Addr) (c : Nat) (w : World) : Calls Trym.prog 8 #[.slice (some x) 0 c] w fun e w' => ∃ a, e = .returned (.slice a 0 0) ∧ Below w.heap.size w w' := by
  have heql := fun (wx : World) (a : Option Addr) (l c : Nat) => Lib.run_eql_slice_nil (P := Trym.prog) wx 22 9 a l c 0 0 Trym.underlying22
  go_enter Trym.func8, Trym.ntmps8
  go_wp2_with (at_make; refine wpList_make_one rfl _ _ 22 rfl 9 (.string ⟨#[]⟩) rfl 16 Trym.underlying22 Trym.info9 .i64 .i64 0 rfl rfl (by omega) (by omega) ?_; intro w1 g hn; have HN := hide hn; clear hn)
  go_loopw [4] (fun i wr => i = .int .i64 0 ∧ w1 = wr) (fun _ _ => 0)
  case atStart => exact ⟨rfl, rfl⟩
  case round =>
    obtain ⟨rfl, rfl⟩ := hrel
    go_wp2
    go_ret
    exact ⟨_, rfl, (unhide HN).below⟩

set_option maxHeartbeats 400000 in
theorem clone_some (b off l c : Nat) (e : Nat → ByteArray) (w : World) (hl : l ≤ 1048576) (hc : ∀ i, i < l → w.cell? ⟨b, off + i, none⟩ = some (.string (e i))) :
    Calls Trym.prog 8 #[.slice (some ⟨b, off, none⟩) l c] w fun r w' => ∃ g, r = .returned (.slice (some ⟨g, 0, none⟩) l l) ∧ NewB w w' g l (strs e) := by
  have heql := fun (wx : World) (a : Option Addr) (l c : Nat) => Lib.run_eql_slice_nil (P := Trym.prog) wx 22 9 a l c 0 0 Trym.underlying22
  have HC := hide hc
  clear hc
  go_enter Trym.func8, Trym.ntmps8
  go_wp2_with (at_make; refine wpList_make_one rfl _ _ 22 rfl 9 (.string ⟨#[]⟩) rfl 16 Trym.underlying22 Trym.info9 .i64 .i64 l rfl rfl (by omega) (by omega) ?_; intro w1 g hn; have HN := hide hn; clear hn)
  go_loopw [4] (fun i wr => ∃ k : Nat, k ≤ l ∧ i = .int .i64 k ∧ Blk wr g l (fun j => if j < k then strs e j else .string ⟨#[]⟩) ∧ But g w1 wr) (fun i _ => l - (intOf i).toNat)
  case atStart => exact ⟨0, Nat.zero_le _, rfl, (unhide HN).blk.congr (fun j _ => by simp), But.refl _ _⟩
  case round =>
    obtain ⟨k, hk, rfl, hb, hbut⟩ := hrel
    have HB := hide hb
    have HBUT := hide hbut
    by_cases hlt : k < l
    · have hc0 := (unhide HC) k hlt
      have hc1 : wr.cell? ⟨b, off + k, none⟩ = some (.string (e k)) := by
        have h1 := cell_later (unhide HN).below hc0
        have hne : b ≠ g := by
          have h2 := World.block_lt_of_cell? _ _ hc0
          have h3 := (unhide HN).at_
          have h4 : b < w.heap.size := h2
          omega
        exact (World.cell?_of_block (hbut.block b hne)).trans h1
      have hd := hb.cell k hlt
      have hf := hb.frozen k
      simp only [Nat.lt_irrefl, if_false] at hd
      clear hb hbut hc0
      go_wp2
      go_roundw
      case rel => exact ⟨k + 1, by omega, by go_num, ((unhide HB).setCell k _).congr (fun j hj => by
        by_cases h1 : j = k
        · subst h1; simp [strs]
        · by_cases h2 : j < k
          · simp [h1, h2, show j < k + 1 by omega]
          · simp [h1, h2, show ¬ j < k + 1 by omega]), (unhide HBUT).setCell _ _⟩
      case measure => simp [intOf]; omega
    · obtain rfl : k = l := by omega
      clear hb hbut
      go_wp2
      go_ret
      exact ⟨g, rfl, (unhide HN).at_, (unhide HN).below.trans ((unhide HBUT).below _ (by rw [(unhide HN).at_]; exact Nat.le_refl _)), (unhide HBUT).size.trans (unhide HN).size, (unhide HB).congr (fun j hj => by simp [hj])⟩

/-- zzCloneStrings, whatever slice. -/
theorem clone_any (a : Option Addr) (l c : Nat) (e : Nat → ByteArray) (w : World) (hl : l ≤ 1048576) (hh : Has w a l c e) :
    Calls Trym.prog 8 #[.slice a l c] w fun r w' => ∃ a', r = .returned (.slice a' l l) ∧ Cont w.heap.size w' a' l e ∧ Below w.heap.size w w' := by
  rcases hh with ⟨rfl, rfl, rfl⟩ | ⟨x, rfl, hc⟩
  · refine (clone_nil w).mono fun r w' h => ?_
    obtain ⟨h1, h2⟩ := h
    subst h2
    exact ⟨none, h1, .inl rfl, Below.refl _ _⟩
  · by_cases h0 : l = 0
    · subst h0
      refine (clone_empty x c w).mono fun r w' h => ?_
      obtain ⟨a', h1, h2⟩ := h
      exact ⟨a', h1, .inl rfl, h2⟩
    · obtain ⟨b, off, spot⟩ := x
      have hs : spot = none := by simpa [Addr.add] using World.cell?_spot (hc 0 (by omega))
      subst hs
      refine (clone_some b off l c e w hl (fun i hi => by rw [← Addr.add_lit]; exact hc i hi)).mono fun r w' h => ?_
      obtain ⟨g, h1, h2⟩ := h
      exact ⟨some ⟨g, 0, none⟩, h1, .inr ⟨g, rfl, by rw [h2.at_]; exact Nat.le_refl _, h2.blk⟩, h2.below⟩
end Go.Proofs.Qxb6601051aMods
