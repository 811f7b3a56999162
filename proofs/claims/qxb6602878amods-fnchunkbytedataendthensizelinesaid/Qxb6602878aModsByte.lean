/- Seat b6602878aM: ZZChunkByte. -/
import Derived.Test.Qxb6602878aModsChunk
namespace Go.Proofs.Qxb6602878aMods
open Go.RowKit

/-- w' is w but for block g, and for new blocks. -/
structure Kept (g : Nat) (w w' : World) : Prop where
  os : w'.os = w.os
  tape : w'.tape = w.tape
  output : w'.output = w.output
  size : w.heap.size ≤ w'.heap.size
  block : ∀ k, k < w.heap.size → k ≠ g → w'.heap[k]? = w.heap[k]?
theorem Kept.refl (g : Nat) (w : World) : Kept g w w := ⟨rfl, rfl, rfl, Nat.le_refl _, fun _ _ _ => rfl⟩
theorem Kept.trans {g : Nat} {a b c : World} (h : Kept g a b) (k : Kept g b c) : Kept g a c :=
  ⟨k.os.trans h.os, k.tape.trans h.tape, k.output.trans h.output, Nat.le_trans h.size k.size, fun i hi hg => (k.block i (Nat.lt_of_lt_of_le hi h.size) hg).trans (h.block i hi hg)⟩
theorem Kept.of_below {g B : Nat} {w w' : World} (h : Below B w w') (hB : w.heap.size ≤ B) : Kept g w w' := ⟨h.os, h.tape, h.output, h.size, fun k hk _ => h.block k (by omega)⟩
theorem Kept.below {g : Nat} {w w' : World} (h : Kept g w w') (B : Nat) (hB : B ≤ g) (hs : B ≤ w.heap.size) : Below B w w' := ⟨h.os, h.tape, h.output, h.size, fun k hk => h.block k (by omega) (by omega)⟩
theorem Kept.blk {g b n : Nat} {w w' : World} {v : Nat → Value} (h : Kept g w w') (hb : Blk w b n v) (hne : b ≠ g) : Blk w' b n v := hb.of_block (h.block b hb.lt hne)

/-- Where chunkByte may stand. -/
structure Good (s : Fs) : Prop where
  st : s.st = 3 ∨ s.st = 4 ∨ s.st = 5 ∨ s.st = 6 ∨ s.st = 8 ∨ s.st = 9
  size : s.st = 3 → 0 ≤ s.dig ∧ s.dig ≤ 16 ∧ 0 ≤ s.left ∧ (s.dig < 16 → s.left < 1152921504606846976)

theorem chunk_all (g : Nat) (v : Nat → Value) (s : Fs) (b : Int) (w : World) (hb : Blk w g 90 (frS v s)) (hs : Good s) (hb0 : 0 ≤ b) (hb1 : b < 256) :
    Calls Trym.prog 25 #[.pointer (some ⟨g, 0, none⟩), .int .u8 b] w (Chunked g v (step s b) w) := by
  obtain ⟨amb, st, left, dig⟩ := s
  rcases hs.st with h | h | h | h | h | h
  · dsimp only at h; subst h
    obtain ⟨q1, q2, q3, q4⟩ := hs.size rfl
    exact chunk_3 g v amb left dig b w hb hb0 hb1 q1 q2 q3 q4
  · dsimp only at h; subst h; exact chunk_4 g v amb left dig b w hb
  · dsimp only at h; subst h; exact chunk_5 g v amb left dig b w hb
  · dsimp only at h; subst h; exact chunk_6 g v amb left dig b w hb
  · dsimp only at h; subst h; exact chunk_8 g v amb left dig b w hb
  · dsimp only at h; subst h; exact chunk_9 g v amb left dig b w hb

/-- What ZZChunkByte leaves. -/
def ByteSaid (g : Nat) (v : Nat → Value) (s : Fs) (w : World) (r : Ending) (w' : World) : Prop := r = .returned (.tuple #[]) ∧ Blk w' g 90 (frS v s) ∧ Kept g w w'

set_option maxHeartbeats 2000000 in
set_option maxRecDepth 8000 in
theorem byte_any (g : Nat) (v : Nat → Value) (s : Fs) (b : Int) (w : World) (h1 : One 90 v) (hb : Blk w g 90 (frS v s)) (hs : Good s) (hb0 : 0 ≤ b) (hb1 : b < 256) :
    Calls Trym.prog 17 #[.pointer (some ⟨g, 0, none⟩), .int .u8 b] w (ByteSaid g v (step s b) w) := by
  have HO := hide (one_fr h1 s.amb s.st s.left s.dig)
  have HO2 := hide (one_fr h1 (step s b).amb (step s b).st (step s b).left (step s b).dig)
  have HB := hide hb
  have HS := hide hs
  clear h1 hb hs
  go_enter Trym.func17, Trym.ntmps17
  go_wp2_with (first
    | (go_at_call 24
       refine (framingIn_any g (frS v s) w (unhide HO) (unhide HB)).mono ?_
       rintro e w1 ⟨rfl, hbl⟩
       have HB1 := hide (below_blk hbl (unhide HB).lt (unhide HB))
       have HK1 := hide (Kept.of_below (g := g) hbl (Nat.le_refl _))
       clear hbl)
    | (refine wpList_new rfl 53 rfl 90 Trym.zero53 ?_; intro w2 g2 v2 h2; have H2 := hide h2; clear h2)
    | (refine wpList_store_agg rfl 53 _ _ rfl Trym.agg53 g2 0 90 (frS v s) v2 rfl rfl (unhide H2).blk (by omega) (unhide HO).ones ?_; intro w3 hb3 hbut3; have HB3 := hide (hb3.congr (v' := frS v s) (fun j hj => put_all 90 _ _ j hj)); have HT3 := hide hbut3; clear hb3 hbut3)
    | (go_at_call 25
       refine (chunk_all g2 v s b w3 (unhide HB3) (unhide HS) hb0 hb1).mono ?_
       rintro e w4 ⟨rfl, hb4, hbut4⟩
       have HB4 := hide hb4
       have HT4 := hide hbut4
       clear hb4 hbut4)
    | (go_at_call 26
       refine (framingOut_any g2 g (frS v (step s b)) (frS v s) w4 (unhide HO2) (unhide HB4) ((unhide HT4).blk ((unhide H2).ne (unhide HB1)) ((unhide HT3).blk ((unhide H2).ne (unhide HB1)) ((unhide H2).old (unhide HB1)))) (Ne.symm ((unhide H2).ne (unhide HB1)))).mono ?_
       rintro e w5 ⟨rfl, hb5, hbut5⟩
       have HB5 := hide hb5
       have HT5 := hide hbut5
       clear hb5 hbut5))
  go_end0
  refine ⟨rfl, unhide HB5, ?_⟩
  have k1 := unhide HK1
  have e2 := (unhide H2).at_
  have k2 : Kept g w1 w2 := Kept.of_below (unhide H2).below (Nat.le_refl _)
  have hle := (unhide HB1).lt
  have k34 : ∀ {x y : World}, But g2 x y → Kept g w x → (w1.heap.size ≤ x.heap.size) → Kept g w y := fun hbut hk _ =>
    ⟨hbut.os.trans hk.os, hbut.tape.trans hk.tape, hbut.output.trans hk.output, hbut.size ▸ hk.size, fun k hk1 hkg => (hbut.block k (by have := k1.size; omega)).trans (hk.block k hk1 hkg)⟩
  have m2 := k1.trans k2
  have s2 := k2.size
  have m3 := k34 (unhide HT3) m2 s2
  have s3 := (unhide HT3).size
  have m4 := k34 (unhide HT4) m3 (by omega)
  have t5 := unhide HT5
  exact ⟨t5.os.trans m4.os, t5.tape.trans m4.tape, t5.output.trans m4.output, t5.size ▸ m4.size, fun k hk hkg => (t5.block k hkg).trans (m4.block k hk hkg)⟩
end Go.Proofs.Qxb6602878aMods
