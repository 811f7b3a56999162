/- Seat b6601051aM: laws on blocks of cells told by a function, and on maps keyed by strings, told by a function. -/
import Derived.Test.Qxb6601051aModsProg
import Derived.WalkKit
import Derived.WalkSpells
import Derived.Maps.OwnSet
namespace Go.Proofs.Qxb6601051aMods
open Go.RowKit

theorem hide {p : Prop} (h : p) : Hid p := h
theorem unhide {p : Prop} (h : Hid p) : p := h

/-- The row f 0, .., f (n - 1). -/
def arr (n : Nat) (f : Nat → Value) : Array Value := ((List.range n).map f).toArray
theorem size_arr (n : Nat) (f : Nat → Value) : (arr n f).size = n := by simp [arr]
theorem get_arr (n : Nat) (f : Nat → Value) (i : Nat) (h : i < n) : (arr n f)[i]? = some (f i) := by simp [arr, h]
theorem arr_ext (n : Nat) (f : Nat → Value) (c : Array Value) (hs : c.size = n) (h : ∀ i, i < n → c[i]? = some (f i)) : c = arr n f := by
  apply Array.ext_getElem?
  intro i
  by_cases hi : i < n
  · rw [h i hi, get_arr n f i hi]
  · rw [Array.getElem?_eq_none (by omega), Array.getElem?_eq_none (by rw [size_arr]; omega)]
theorem arr_congr (n : Nat) (f g : Nat → Value) (h : ∀ i, i < n → f i = g i) : arr n f = arr n g :=
  arr_ext n g _ (size_arr n f) (fun i hi => by rw [get_arr n f i hi, h i hi])
theorem arr_one (x : Value) : #[x] = arr 1 (fun _ => x) := by simp [arr]

/-- Block g is a row of n cells, told by v, that may be written. -/
def Blk (w : World) (g n : Nat) (v : Nat → Value) : Prop := ∃ t, w.heap[g]? = some (.cells (arr n v) t (0, 0))

theorem Blk.lt {w : World} {g n : Nat} {v : Nat → Value} (h : Blk w g n v) : g < w.heap.size := by
  obtain ⟨t, h⟩ := h
  exact (Array.getElem?_eq_some_iff.1 h).1
theorem Blk.cell {w : World} {g n : Nat} {v : Nat → Value} (h : Blk w g n v) (i : Nat) (hi : i < n) : w.cell? ⟨g, i, none⟩ = some (v i) := by
  obtain ⟨t, h⟩ := h
  rw [cell_of_row w g i _ t _ h, get_arr n v i hi]
theorem Blk.frozen {w : World} {g n : Nat} {v : Nat → Value} (h : Blk w g n v) (i : Nat) : w.frozen? ⟨g, i, none⟩ = false := by
  obtain ⟨t, h⟩ := h
  exact frozen_of_row w g i _ t h
theorem Blk.congr {w : World} {g n : Nat} {v v' : Nat → Value} (h : Blk w g n v) (hv : ∀ i, i < n → v i = v' i) : Blk w g n v' := by
  obtain ⟨t, h⟩ := h
  exact ⟨t, by rw [h, arr_congr n v v' hv]⟩
theorem Blk.of_block {w w' : World} {g n : Nat} {v : Nat → Value} (h : Blk w g n v) (hb : w'.heap[g]? = w.heap[g]?) : Blk w' g n v := by
  obtain ⟨t, h⟩ := h
  exact ⟨t, by rw [hb, h]⟩
theorem Blk.setCell {w : World} {g n : Nat} {v : Nat → Value} (h : Blk w g n v) (i : Nat) (x : Value) : Blk (w.setCell ⟨g, i, none⟩ x) g n (fun j => if j = i then x else v j) := by
  obtain ⟨t, h⟩ := h
  refine ⟨t, ?_⟩
  rw [heap_setCell_same w g i _ t x h]
  congr 2
  refine arr_ext n _ _ (by simp [size_arr]) (fun j hj => ?_)
  rw [Array.getElem?_setIfInBounds]
  by_cases e : i = j
  · subst e; simp [size_arr, hj]
  · rw [if_neg e, if_neg (fun h => e h.symm), get_arr n v j hj]

/-- w' is w but for block g. -/
structure But (g : Nat) (w w' : World) : Prop where
  os : w'.os = w.os
  tape : w'.tape = w.tape
  output : w'.output = w.output
  size : w'.heap.size = w.heap.size
  block : ∀ k, k ≠ g → w'.heap[k]? = w.heap[k]?
theorem But.refl (g : Nat) (w : World) : But g w w := ⟨rfl, rfl, rfl, rfl, fun _ _ => rfl⟩
theorem But.drew {g : Nat} {w w' : World} (h : But g w w') : But g w w'.drew := ⟨h.os, h.tape, h.output, h.size, h.block⟩
theorem But.trans {g : Nat} {a b c : World} (h : But g a b) (k : But g b c) : But g a c :=
  ⟨k.os.trans h.os, k.tape.trans h.tape, k.output.trans h.output, k.size.trans h.size, fun i hi => (k.block i hi).trans (h.block i hi)⟩
theorem But.setCell {g : Nat} {w w' : World} (h : But g w w') (i : Nat) (v : Value) : But g w (w'.setCell ⟨g, i, none⟩ v) :=
  ⟨h.os, h.tape, h.output, by simpa [World.setCell] using h.size, fun k hk => (Below.heap_setCell w' ⟨g, i, none⟩ v k hk).trans (h.block k hk)⟩
theorem But.blk {g : Nat} {w w' : World} (h : But g w w') {b n : Nat} {v : Nat → Value} (hb : b ≠ g) (hi : Blk w b n v) : Blk w' b n v := hi.of_block (h.block b hb)
theorem But.below {g : Nat} {w w' : World} (h : But g w w') (B : Nat) (hB : B ≤ g) : Below B w w' :=
  ⟨h.os, h.tape, h.output, Nat.le_of_eq h.size.symm, fun k hk => h.block k (by omega)⟩
theorem below_blk {B : Nat} {w w' : World} (h : Below B w w') {b n : Nat} {v : Nat → Value} (hb : b < B) (hi : Blk w b n v) : Blk w' b n v := hi.of_block (h.block b hb)

/-- w' is w and one new block g of n cells, told by v. -/
structure NewB (w w' : World) (g n : Nat) (v : Nat → Value) : Prop where
  at_ : g = w.heap.size
  below : Below w.heap.size w w'
  size : w'.heap.size = w.heap.size + 1
  blk : Blk w' g n v
theorem NewB.old {w w' : World} {g n : Nat} {v : Nat → Value} (h : NewB w w' g n v) {b m : Nat} {u : Nat → Value} (hb : Blk w b m u) : Blk w' b m u := below_blk h.below hb.lt hb
theorem NewB.ne {w w' : World} {g n : Nat} {v : Nat → Value} (h : NewB w w' g n v) {b m : Nat} {u : Nat → Value} (hb : Blk w b m u) : b ≠ g := by
  have := hb.lt
  have := h.at_
  omega
theorem NewB.below' {w0 w w' : World} {g n : Nat} {v : Nat → Value} (h : NewB w w' g n v) (hb : Below w0.heap.size w0 w) : Below w0.heap.size w0 w' := hb.trans (h.below.mono hb.size)
theorem But.below' {w0 w w' : World} {g : Nat} (h : But g w w') (hb : Below w0.heap.size w0 w) (hg : w0.heap.size ≤ g) : Below w0.heap.size w0 w' := hb.trans (h.below _ hg)

theorem newB_alloc (w : World) (n : Nat) (f : Nat → Value) (t : TypeId) : NewB w (w.alloc (.cells (arr n f) t)) w.heap.size n f :=
  ⟨rfl, (Below.refl _ _).alloc (Nat.le_refl _) _, by simp, ⟨t, heap_alloc_new _ _⟩⟩


theorem cells0 {w : World} {g n : Nat} {v : Nat → Value} (h : Blk w g n v) : ∀ j, j < n → w.cell? ⟨g, 0 + j, none⟩ = some (v j) := fun j hj => by rw [Nat.zero_add]; exact h.cell j hj

/-! ### maps keyed by strings, of whatever elements -/
/-- A key. -/
def key (s : ByteArray) : List UInt8 := s.data.toList
/-- An element stands for itself. -/
def tokR (v : Value) : Option (DataW Value × List MemPlace) := some (.held v, [])
/-- Block b is a map of n entries, told by f. -/
def MapIs (w : World) (b : Nat) (f : List UInt8 → Option Value) (n : Nat) : Prop :=
  ∃ D : DataW Value, w.ownsMap Trym.prog 9 tokR b n D ∧ Maps.size D = n ∧ (∀ s, Maps.has D (.string s) = (f s).isSome) ∧ (∀ s z, D.atKey (.string s) z = match f s with | some v => .held v | none => z)

theorem keyed : Maps.Keyed Trym.prog 9 := Maps.string_keyed Trym.underlying9
theorem key_of {s : ByteArray} (hs : s.size ≤ maxLen) : keyOf Trym.prog 9 (.string s) = some (.string (key s)) := WideMaps.keyOf_string_mk Trym.underlying9 hs

theorem own_exact {w : World} {b n : Nat} {D : DataW Value} (h : w.ownsMap Trym.prog 9 tokR b n D) : w.ownsMap Trym.prog 9 tokR b (Maps.size D) D := by
  obtain ⟨es, clock, hb, F, hs, rfl⟩ := h
  exact ⟨es, clock, hb, F, by simp [Maps.size, length_sorted], rfl⟩

theorem MapIs.lt {w : World} {b n : Nat} {f : List UInt8 → Option Value} (h : MapIs w b f n) : b < w.heap.size := by
  obtain ⟨D, hD, _⟩ := h
  exact hD.lt
theorem MapIs.of_block {w w' : World} {b n : Nat} {f : List UInt8 → Option Value} (h : MapIs w b f n) (hb : w'.heap[b]? = w.heap[b]?) : MapIs w' b f n := by
  obtain ⟨D, ⟨es, clock, h1, r⟩, r2⟩ := h
  exact ⟨D, ⟨es, clock, by rw [hb, h1], r⟩, r2⟩
theorem MapIs.congr {w : World} {b n : Nat} {f f' : List UInt8 → Option Value} (h : MapIs w b f n) (hf : ∀ s, f s = f' s) : MapIs w b f' n := by
  obtain rfl : f = f' := funext hf
  exact h
theorem MapIs.ne_blk {w : World} {b n g m : Nat} {f : List UInt8 → Option Value} {v : Nat → Value} (h : MapIs w b f n) (hb : Blk w g m v) : b ≠ g := by
  obtain ⟨D, ⟨es, clock, h1, r⟩, r2⟩ := h
  obtain ⟨t, h2⟩ := hb
  intro e
  subst e
  rw [h1] at h2
  cases h2

/-- 'make(map[string]T)' -/
theorem mapIs_made (w : World) : MapIs (w.alloc (.map #[] 0)) w.heap.size (fun _ => none) 0 :=
  ⟨.map [], World.ownsMap_made w _ _ _, rfl, fun _ => rfl, fun _ _ => rfl⟩

theorem but_turned {w w' : World} {b : Nat} (h : w.mapTurned w' b) : But b w w' := by
  have hg := h.grown
  obtain ⟨es, clock, es', clock', hb, rfl⟩ := h
  have hsz : (ChangeMaps.setBlock w b (.map es' clock')).heap.size = w.heap.size := by simp [ChangeMaps.setBlock]
  refine ⟨hg.os, hg.tape, hg.output, hsz, fun k hk => ?_⟩
  by_cases hlt : k < w.heap.size
  · exact hg.block k hlt (by simpa using hk)
  · rw [Array.getElem?_eq_none (by omega), Array.getElem?_eq_none (by omega)]

theorem MapIs.look {w : World} {b n : Nat} {f : List UInt8 → Option Value} (h : MapIs w b f n) {t e : TypeId} (ht : Trym.prog.underlying t = some (.map 9 e)) {z : Value} (hz : (zeroValue e).run Trym.prog w = .ok z w) {s : ByteArray} (hs : s.size ≤ maxLen) :
    (Instr.lookup t (.map (some b)) (.string s) false).run Trym.prog w = .ok ((f (key s)).getD z) w := by
  obtain ⟨D, hD, _, _, hat⟩ := h
  obtain ⟨v, ps, hr, hv⟩ := hD.lookup keyed ht hz (zd := .held z) (zp := []) rfl (key_of hs)
  rw [hr]
  rw [hat (key s) (.held z)] at hv
  cases hf : f (key s) with
  | none => rw [hf] at hv; simp only [tokR, Option.some.injEq, Prod.mk.injEq, DataW.held.injEq] at hv; rw [hv.1]; rfl
  | some u => rw [hf] at hv; simp only [tokR, Option.some.injEq, Prod.mk.injEq, DataW.held.injEq] at hv; rw [hv.1]; rfl

theorem MapIs.look_ok {w : World} {b n : Nat} {f : List UInt8 → Option Value} (h : MapIs w b f n) {t e : TypeId} (ht : Trym.prog.underlying t = some (.map 9 e)) {z : Value} (hz : (zeroValue e).run Trym.prog w = .ok z w) {s : ByteArray} (hs : s.size ≤ maxLen) :
    (Instr.lookup t (.map (some b)) (.string s) true).run Trym.prog w = .ok (.tuple #[(f (key s)).getD z, .bool (f (key s)).isSome]) w := by
  obtain ⟨D, hD, _, hhas, hat⟩ := h
  obtain ⟨v, ps, hr, hv⟩ := hD.look_ok keyed ht hz (zd := .held z) (zp := []) rfl (key_of hs)
  rw [hr, hhas]
  rw [hat (key s) (.held z)] at hv
  cases hf : f (key s) with
  | none => rw [hf] at hv; simp only [tokR, Option.some.injEq, Prod.mk.injEq, DataW.held.injEq] at hv; rw [hv.1]; rfl
  | some u => rw [hf] at hv; simp only [tokR, Option.some.injEq, Prod.mk.injEq, DataW.held.injEq] at hv; rw [hv.1]; rfl

theorem MapIs.len {w : World} {b n : Nat} {f : List UInt8 → Option Value} (h : MapIs w b f n) {t e : TypeId} (ht : Trym.prog.underlying t = some (.map 9 e)) (ty : TypeId) :
    (Builtin.len_ #[t] ty #[.map (some b)]).run Trym.prog w = .ok (.int .i64 (n : Int)) w := by
  obtain ⟨D, hD, hn, _⟩ := h
  rw [hD.len ht ty, hn]

/-- f with a turned at k. -/
def upd (f : List UInt8 → Option Value) (k : List UInt8) (a : Option Value) (s : List UInt8) : Option Value := if s = k then a else f s

theorem lit_ne {s k : List UInt8} (h : s ≠ k) : Lit.string s ≠ Lit.string k := fun e => h (by injection e)

theorem MapIs.store {w : World} {b n : Nat} {f : List UInt8 → Option Value} (h : MapIs w b f n) {t e : TypeId} (ht : Trym.prog.underlying t = some (.map 9 e)) (hn : n < maxLen) {s : ByteArray} (hs : s.size ≤ maxLen) (v : Value) :
    ∃ w', (Instr.mapUpdate t (.map (some b)) (.string s) v).run Trym.prog w = .ok () w' ∧ MapIs w' b (upd f (key s) (some v)) (if (f (key s)).isSome then n else n + 1) ∧ But b w w' := by
  obtain ⟨D, hD, hsz, hhas, hat⟩ := h
  obtain ⟨w', hr, ho, ht'⟩ := hD.store keyed ht hn (key_of hs) (val := v) (d := .held v) (ps := []) rfl
  have hsize : Maps.size (D.put (.string (key s)) (.held v)) = if (f (key s)).isSome then n else n + 1 := by
    rw [Maps.size_put (hD.tidy keyed), hhas, hsz]
  refine ⟨w', hr, ⟨_, by rw [← hsize]; exact own_exact ho, hsize, fun s' => ?_, fun s' z => ?_⟩, but_turned ht'⟩
  · unfold upd
    by_cases e : s' = key s
    · subst e; rw [if_pos rfl, Maps.has_put_same (k := .string (key s)) hD.isMap (show WideAt.IsKeyLit (.string (key s)) from trivial)]; rfl
    · rw [if_neg e, Maps.has_put_other (lit_ne e), hhas]
  · unfold upd
    by_cases e : s' = key s
    · subst e; rw [if_pos rfl, Maps.atKey_put_same (k := .string (key s)) hD.isMap (show WideAt.IsKeyLit (.string (key s)) from trivial)]
    · rw [if_neg e, Maps.atKey_put_other (lit_ne e), hat]

theorem MapIs.drop {w : World} {b n : Nat} {f : List UInt8 → Option Value} (h : MapIs w b f n) {t e : TypeId} (ht : Trym.prog.underlying t = some (.map 9 e)) {s : ByteArray} (hs : s.size ≤ maxLen) (ty : TypeId) :
    ∃ w', (Builtin.delete_ #[t, 9] ty #[.map (some b), .string s]).run Trym.prog w = .ok (.tuple #[]) w' ∧ MapIs w' b (upd f (key s) none) (if (f (key s)).isSome then n - 1 else n) ∧ But b w w' := by
  obtain ⟨D, hD, hsz, hhas, hat⟩ := h
  obtain ⟨w', hr, ho, ht'⟩ := hD.drop keyed ht (key_of hs) ty
  have hsize : Maps.size (D.del (.string (key s))) = if (f (key s)).isSome then n - 1 else n := by
    have := Maps.size_del (k := .string (key s)) (hD.tidy keyed)
    rw [hhas, hsz] at this
    split at this <;> split <;> simp_all <;> omega
  refine ⟨w', hr, ⟨_, by rw [← hsize]; exact own_exact ho, hsize, fun s' => ?_, fun s' z => ?_⟩, but_turned ht'⟩
  · unfold upd
    by_cases e : s' = key s
    · subst e; rw [if_pos rfl, Maps.has_del_same]; rfl
    · rw [if_neg e, Maps.has_del_other (lit_ne e), hhas]
  · unfold upd
    by_cases e : s' = key s
    · subst e; rw [if_pos rfl, Maps.atKey_del_same]
    · rw [if_neg e, Maps.atKey_del_other (lit_ne e), hat]
end Go.Proofs.Qxb6601051aMods
