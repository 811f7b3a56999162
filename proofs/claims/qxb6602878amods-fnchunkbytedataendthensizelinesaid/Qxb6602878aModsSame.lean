/- Seat b6602878aM: zzSamePB1. -/
import Derived.Test.Qxb6602878aModsLex
namespace Go.Proofs.Qxb6602878aMods
open Go.RowKit

section
variable {P : Program} {ops : Array Oper} {C : World → Prop} {Q : Act → Prop}
/-- The lexical walk of a quiet region, by the operations' numbers. -/
def wpQl (P : Program) (ops : Array Oper) (C : World → Prop) (Q : Act → Prop) : List Nat → Act → Prop
  | [], a => Q a
  | k :: ks, a => ∃ o, ops[k]? = some o ∧ Region.wanted o (yielded ops a.tmps) = true ∧ o.quiet P a C (wpQl P ops C Q ks)
theorem wpQl_quiet : ∀ (l : List Oper) (ks : List Nat) (a : Act), ks.map (fun k => ops[k]?) = l.map some → wpQl P ops C Q ks a → wpQuiet P ops C Q l a
  | [], [], a, _, h => h
  | [], _ :: _, _, hl, _ => by simp at hl
  | _ :: _, [], _, hl, _ => by simp at hl
  | o :: l, k :: ks, a, hl, h => by
    simp only [List.map_cons, List.cons.injEq] at hl
    obtain ⟨o', h0, hw, hq⟩ := h
    obtain rfl : o' = o := by rw [hl.1] at h0; injection h0 with h0; exact h0.symm
    unfold wpQuiet
    rw [if_pos hw]
    exact Oper.quiet_mono (fun a' h' => wpQl_quiet l ks a' hl.2 h') hq
theorem wp_region_ql {id : Nat} {l : List Oper} {QQ : Exit → Act → World → Prop} {a : Act} {w : World} (ks : List Nat) (hm : P.follows .mixedOrders = true) (base : Nat) (hs : Region.noSelect l.toArray = true) (hB : linB .any base 0 l = true) (hk : ks = List.range l.length) (hC : C w.drew)
    (h : ∀ ops', ops' = l.toArray → wpQl P ops' C (fun a' => ∀ w', C w' → QQ .normal a' w') ks a) : (Code.region id l.toArray true).wp P QQ a w := by
  refine wp_region_quiet (C := C) hm (lexB_lin hs hB) hC ?_
  refine wpQl_quiet _ ks a ?_ (h _ rfl)
  subst hk
  apply List.ext_getElem?
  intro i
  by_cases hi : i < l.length
  · simp [hi]
  · simp [hi]
theorem qx_nil {a : Act} (h : Q a) : wpQl P ops C Q [] a := h
section
variable {k : Nat} {a : Act} {rest : List Nat} {d : Option Tmp} {gd : Option (Nat × Bool)}
theorem qx_step {op : Op} (hk : At ops k d op gd) (hg : Wanted ops a.tmps gd) (v : Value) (hr : ∀ o : Oper, o.op = op → ∀ w, C w → (execOp a.eval o).run P w = .ok (.value v) w) (h : wpQl P ops C Q rest (a.put d v)) : wpQl P ops C Q (k :: rest) a := by
  obtain ⟨o, h0, rfl, h2, rfl⟩ := hk
  refine ⟨o, h0, wanted_of hg, v, fun w hw => ?_, h⟩
  unfold Oper.quietAt
  rw [hr o h2 w hw]
  exact ⟨rfl, rfl⟩
theorem qx_move {x : Operand} (hk : At ops k d (.move x) gd) (hg : Wanted ops a.tmps gd) (v : Value) (hx : a.eval x = v) (h : wpQl P ops C Q rest (a.put d v)) : wpQl P ops C Q (k :: rest) a :=
  qx_step hk hg v (fun o ho w _ => by simp [execOp, ho, hx]) h
theorem qx_assign {x : Operand} (hk : At ops k d (.assign x) gd) (hg : Wanted ops a.tmps gd) (v : Value) (hx : a.eval x = v) (h : wpQl P ops C Q rest (a.put d v)) : wpQl P ops C Q (k :: rest) a :=
  qx_step hk hg v (fun o ho w _ => by simp [execOp, ho, hx]) h
theorem qx_nilc {x : Operand} (hk : At ops k d (.nilCheck x) gd) (hg : Wanted ops a.tmps gd) (g off : Nat) (hx : a.eval x = .pointer (some ⟨g, off, none⟩)) (h : wpQl P ops C Q rest (a.put d (.pointer (some ⟨g, off, none⟩)))) : wpQl P ops C Q (k :: rest) a :=
  qx_step hk hg _ (fun o ho w _ => by simp [execOp, ho, hx]) h
theorem qx_field {s : TypeId} {x : Operand} {i : Nat} (hk : At ops k d (.fieldAddr s x i) gd) (hg : Wanted ops a.tmps gd) {dd : Nat} (hf : fieldOff P s i = some dd) (g off : Nat) (hx : a.eval x = .pointer (some ⟨g, off, none⟩)) (off' : Nat) (hoff : off + dd = off')
    (h : wpQl P ops C Q rest (a.put d (.pointer (some ⟨g, off', none⟩)))) : wpQl P ops C Q (k :: rest) a := by
  subst hoff
  exact qx_step hk hg _ (fun o ho w _ => by simp [execOp, ho, hx, run_fieldAt hf g off w]) h
theorem qx_load {t : TypeId} {x : Operand} (hk : At ops k d (.load t x) gd) (hg : Wanted ops a.tmps gd) (ht : single P t = true) (g off : Nat) (hx : a.eval x = .pointer (some ⟨g, off, none⟩)) (v : Value)
    (hc : ∀ w, C w → w.cell? ⟨g, off, none⟩ = some v) (h : wpQl P ops C Q rest (a.put d v)) : wpQl P ops C Q (k :: rest) a :=
  qx_step hk hg v (fun o ho w hw => by simp only [execOp, ho, hx, Sem.run_bind, run_loadAt_single ht g off v w (hc w hw)]; rfl) h
theorem qx_load_agg {t : TypeId} {x : Operand} (hk : At ops k d (.load t x) gd) (hg : Wanted ops a.tmps gd) {n : Nat} (ht : Agg P t n) (g off : Nat) (hx : a.eval x = .pointer (some ⟨g, off, none⟩)) (f : Nat → Value)
    (hc : ∀ w, C w → ∀ j, j < n → w.cell? ⟨g, off + j, none⟩ = some (f j)) (h : wpQl P ops C Q rest (a.put d (.agg (arr n f)))) : wpQl P ops C Q (k :: rest) a :=
  qx_step hk hg _ (fun o ho w hw => by simp only [execOp, ho, hx, Sem.run_bind, run_loadAt_agg ht w g off f (hc w hw)]; rfl) h
theorem qx_pick {c x y : Operand} (hk : At ops k d (.pick c x y) gd) (hg : Wanted ops a.tmps gd) (hc : a.eval c = .bool true) (v : Value) (hx : a.eval x = v) (h : wpQl P ops C Q rest (a.put d v)) : wpQl P ops C Q (k :: rest) a :=
  qx_step hk hg v (fun o ho w _ => by simp [execOp, ho, hc, hx, asBool]) h
theorem qx_call {c : Call} (hk : At ops k d (.call c) gd) (hg : Wanted ops a.tmps gd) (f : FuncId) (args : Array Value) (hrun : ∀ o : Oper, o.op = .call c → ∀ w, (execOp a.eval o).run P w = .ok (.enter f args) w) (v : Value)
    (hc : ∀ w, C w → Calls P f args w fun e w' => e = .returned v ∧ C w') (h : wpQl P ops C Q rest (a.put d v)) : wpQl P ops C Q (k :: rest) a := by
  obtain ⟨o, h0, rfl, h2, rfl⟩ := hk
  refine ⟨o, h0, wanted_of hg, v, fun w hw => ?_, h⟩
  unfold Oper.quietAt
  rw [hrun o h2 w]
  exact ⟨rfl, hc w hw⟩
end
end
/-- u == u is true. -/
def SelfEq (t : TypeId) (u : Value) : Prop := ∀ (x y : Operand) (w : World), (do eqGuard .eql t x y u u; binOp .eql t u u : Sem Value).run Trym.prog w = .ok (.bool true) w
theorem qx_eql {ops : Array Oper} {C : World → Prop} {Q : Act → Prop} {k : Nat} {a : Act} {rest : List Nat} {d : Option Tmp} {gd : Option (Nat × Bool)} {t t' : TypeId} {x y : Operand} (hk : At ops k d (.binOp .eql t x y t') gd) (hg : Wanted ops a.tmps gd) (u : Value) (hx : a.eval x = u) (hy : a.eval y = u) (hs : SelfEq t u)
    (h : wpQl Trym.prog ops C Q rest (a.put d (.bool true))) : wpQl Trym.prog ops C Q (k :: rest) a :=
  qx_step hk hg _ (fun o ho w _ => by
    have := hs x y w
    rw [Sem.run_bind] at this
    simp only [execOp, ho, hx, hy, Sem.run_bind, this]
    rfl) h
structure Selfs (v : Nat → Value) : Prop where
  s0 : SelfEq 4 (v 0)
  s1 : SelfEq 4 (v 1)
  s78 : SelfEq 4 (v 78)
  s79 : SelfEq 4 (v 79)
  s83 : SelfEq 4 (v 83)
  s85 : SelfEq 4 (v 85)
  s86 : SelfEq 4 (v 86)
  s2 : SelfEq 3 (v 2)
  s3 : SelfEq 3 (v 3)
  s77 : SelfEq 3 (v 77)
  s80 : SelfEq 3 (v 80)
  s82 : SelfEq 3 (v 82)
  s84 : SelfEq 3 (v 84)
  s89 : SelfEq 3 (v 89)
  s81 : SelfEq 31 (v 81)
  s88 : SelfEq 31 (v 88)
  s4 : SelfEq 22 (.agg (arr 64 (sh 4 v)))
  s68 : SelfEq 23 (.agg (arr 9 (sh 68 v)))

theorem drew_cell {w w' : World} {x : Addr} (h : ∃ q, w' = w.drewN q) : w'.cell? x = w.cell? x := by
  obtain ⟨q, rfl⟩ := h
  rfl
theorem drew_below (w : World) (q : Nat) : Below w.heap.size w (w.drewN q) := ⟨rfl, rfl, rfl, Nat.le_refl _, fun _ _ => rfl⟩
theorem in_drewHZ {w : World} {g : Nat} {v : Nat → Value} (h : Blk w g 90 v) (off n : Nat) (hn : off + n ≤ 90) : ∀ w', (∃ q, w' = w.drewN q) → ∀ j, j < n → w'.cell? ⟨g, off + j, none⟩ = some (sh off v j) := fun _ hw j hj => (drew_cell hw).trans (h.sh off n hn j hj)
theorem in_drewHF {w : World} {g : Nat} {v : Nat → Value} {x : Value} (h : Blk w g 90 (setV v 87 x)) (off n : Nat) (hn : off + n ≤ 90) (h87 : 87 < off ∨ off + n ≤ 87) : ∀ w', (∃ q, w' = w.drewN q) → ∀ j, j < n → w'.cell? ⟨g, off + j, none⟩ = some (sh off v j) := fun _ hw j hj => by
  rw [drew_cell hw, h.sh off n hn j hj]
  unfold sh setV
  rw [if_neg (by omega)]

set_option maxHeartbeats 16000000 in
set_option maxRecDepth 40000 in
/-- zzSamePB1 of two that are the same. -/
theorem same_any (gz gf : Nat) (v : Nat → Value) (a b : Option Addr) (l : Nat) (e : Nat → Int) (w : World) (hz : Blk w gz 90 v) (hv : v 87 = .slice a l l) (hf : Blk w gf 90 (setV v 87 (.slice b l l))) (hq : Selfs v) (hl : l ≤ 1048576) (hab : a.isNone = b.isNone) (hia : HasI w a l l e) (hib : HasI w b l l e) :
    Calls Trym.prog 18 #[.pointer (some ⟨gz, 0, none⟩), .pointer (some ⟨gf, 0, none⟩)] w fun r w' => r = .returned (.bool true) ∧ ∃ q, w' = w.drewN q := by
  have HZ := hide hz
  have HF := hide hf
  have HV := hide hv
  have HQ := hide hq
  have HIA := hide hia
  have HIB := hide hib
  clear hz hf hv hq hia hib
  go_enter Trym.func18, Trym.ntmps18
  go_wp2_with fail
  refine wp_region_ql (C := fun w' => ∃ q, w' = w.drewN q) [0, 1, 2, 3, 4, 5, 6, 7, 8, 9, 10, 11, 12, 13, 14, 15, 16, 17, 18, 19, 20, 21, 22, 23, 24, 25, 26, 27, 28, 29, 30, 31, 32, 33, 34, 35, 36, 37, 38, 39, 40, 41, 42, 43, 44, 45, 46, 47, 48, 49, 50, 51, 52, 53, 54, 55, 56, 57, 58, 59, 60, 61, 62, 63, 64, 65, 66, 67, 68, 69, 70, 71, 72, 73, 74, 75, 76, 77, 78, 79, 80, 81, 82, 83, 84, 85, 86, 87, 88, 89, 90, 91, 92, 93, 94, 95, 96, 97, 98, 99, 100, 101, 102, 103, 104, 105, 106, 107, 108, 109, 110, 111, 112, 113, 114, 115, 116, 117, 118, 119, 120, 121, 122, 123, 124, 125, 126, 127, 128, 129, 130, 131, 132, 133, 134, 135, 136, 137, 138, 139, 140, 141, 142, 143, 144, 145, 146, 147, 148, 149, 150, 151, 152, 153, 154, 155, 156, 157, 158, 159, 160, 161, 162, 163, 164, 165, 166, 167, 168, 169, 170, 171, 172, 173, 174, 175, 176, 177, 178, 179, 180, 181, 182, 183, 184, 185, 186, 187, 188, 189, 190, 191, 192, 193, 194, 195, 196, 197, 198, 199, 200, 201, 202, 203, 204, 205, 206, 207] follows 5 (by kernel_rfl) (by kernel_rfl) (by kernel_rfl) ⟨1, rfl⟩ ?_
  intro ops hops
  refine qx_move (d := some 5) (at_of hops rfl rfl rfl rfl) trivial (.pointer (some ⟨gz, 0, none⟩)) rfl ?_
  simp only [Act.put, List.setIfInBounds_toArray, List.set_cons_zero, List.set_cons_succ]
  refine qx_nilc (d := some 6) (at_of hops rfl rfl rfl rfl) trivial gz 0 rfl ?_
  simp only [Act.put, List.setIfInBounds_toArray, List.set_cons_zero, List.set_cons_succ]
  refine qx_field (d := some 7) (at_of hops rfl rfl rfl rfl) trivial Trym.field39_0 gz 0 rfl 0 rfl ?_
  simp only [Act.put, List.setIfInBounds_toArray, List.set_cons_zero, List.set_cons_succ]
  refine qx_load (d := some 8) (at_of hops rfl rfl rfl rfl) trivial Trym.single4 gz 0 rfl (v 0) (fun w' hw => (drew_cell hw).trans ((unhide HZ).cell 0 (by omega))) ?_
  simp only [Act.put, List.setIfInBounds_toArray, List.set_cons_zero, List.set_cons_succ]
  refine qx_move (d := some 9) (at_of hops rfl rfl rfl rfl) trivial (.pointer (some ⟨gf, 0, none⟩)) rfl ?_
  simp only [Act.put, List.setIfInBounds_toArray, List.set_cons_zero, List.set_cons_succ]
  refine qx_nilc (d := some 10) (at_of hops rfl rfl rfl rfl) trivial gf 0 rfl ?_
  simp only [Act.put, List.setIfInBounds_toArray, List.set_cons_zero, List.set_cons_succ]
  refine qx_field (d := some 11) (at_of hops rfl rfl rfl rfl) trivial Trym.field34_0 gf 0 rfl 0 rfl ?_
  simp only [Act.put, List.setIfInBounds_toArray, List.set_cons_zero, List.set_cons_succ]
  refine qx_load (d := some 12) (at_of hops rfl rfl rfl rfl) trivial Trym.single4 gf 0 rfl (v 0) (fun w' hw => (drew_cell hw).trans ((unhide HF).cell 0 (by omega))) ?_
  simp only [Act.put, List.setIfInBounds_toArray, List.set_cons_zero, List.set_cons_succ]
  refine qx_eql (d := some 13) (at_of hops rfl rfl rfl rfl) trivial (v 0) rfl rfl (unhide HQ).s0 ?_
  simp only [Act.put, List.setIfInBounds_toArray, List.set_cons_zero, List.set_cons_succ]
  refine qx_move (d := some 14) (at_of hops rfl rfl rfl rfl) trivial (.bool true) rfl ?_
  simp only [Act.put, List.setIfInBounds_toArray, List.set_cons_zero, List.set_cons_succ]
  refine qx_move (d := some 15) (at_of hops rfl rfl rfl rfl) (wnt hops rfl) (.pointer (some ⟨gz, 0, none⟩)) rfl ?_
  simp only [Act.put, List.setIfInBounds_toArray, List.set_cons_zero, List.set_cons_succ]
  refine qx_nilc (d := some 16) (at_of hops rfl rfl rfl rfl) (wnt hops rfl) gz 0 rfl ?_
  simp only [Act.put, List.setIfInBounds_toArray, List.set_cons_zero, List.set_cons_succ]
  refine qx_field (d := some 17) (at_of hops rfl rfl rfl rfl) (wnt hops rfl) Trym.field39_1 gz 0 rfl 1 rfl ?_
  simp only [Act.put, List.setIfInBounds_toArray, List.set_cons_zero, List.set_cons_succ]
  refine qx_load (d := some 18) (at_of hops rfl rfl rfl rfl) (wnt hops rfl) Trym.single4 gz 1 rfl (v 1) (fun w' hw => (drew_cell hw).trans ((unhide HZ).cell 1 (by omega))) ?_
  simp only [Act.put, List.setIfInBounds_toArray, List.set_cons_zero, List.set_cons_succ]
  refine qx_move (d := some 19) (at_of hops rfl rfl rfl rfl) (wnt hops rfl) (.pointer (some ⟨gf, 0, none⟩)) rfl ?_
  simp only [Act.put, List.setIfInBounds_toArray, List.set_cons_zero, List.set_cons_succ]
  refine qx_nilc (d := some 20) (at_of hops rfl rfl rfl rfl) (wnt hops rfl) gf 0 rfl ?_
  simp only [Act.put, List.setIfInBounds_toArray, List.set_cons_zero, List.set_cons_succ]
  refine qx_field (d := some 21) (at_of hops rfl rfl rfl rfl) (wnt hops rfl) Trym.field34_1 gf 0 rfl 1 rfl ?_
  simp only [Act.put, List.setIfInBounds_toArray, List.set_cons_zero, List.set_cons_succ]
  refine qx_load (d := some 22) (at_of hops rfl rfl rfl rfl) (wnt hops rfl) Trym.single4 gf 1 rfl (v 1) (fun w' hw => (drew_cell hw).trans ((unhide HF).cell 1 (by omega))) ?_
  simp only [Act.put, List.setIfInBounds_toArray, List.set_cons_zero, List.set_cons_succ]
  refine qx_eql (d := some 23) (at_of hops rfl rfl rfl rfl) (wnt hops rfl) (v 1) rfl rfl (unhide HQ).s1 ?_
  simp only [Act.put, List.setIfInBounds_toArray, List.set_cons_zero, List.set_cons_succ]
  refine qx_pick (d := some 24) (at_of hops rfl rfl rfl rfl) trivial rfl (.bool true) rfl ?_
  simp only [Act.put, List.setIfInBounds_toArray, List.set_cons_zero, List.set_cons_succ]
  refine qx_move (d := some 25) (at_of hops rfl rfl rfl rfl) trivial (.bool true) rfl ?_
  simp only [Act.put, List.setIfInBounds_toArray, List.set_cons_zero, List.set_cons_succ]
  refine qx_move (d := some 26) (at_of hops rfl rfl rfl rfl) (wnt hops rfl) (.pointer (some ⟨gz, 0, none⟩)) rfl ?_
  simp only [Act.put, List.setIfInBounds_toArray, List.set_cons_zero, List.set_cons_succ]
  refine qx_nilc (d := some 27) (at_of hops rfl rfl rfl rfl) (wnt hops rfl) gz 0 rfl ?_
  simp only [Act.put, List.setIfInBounds_toArray, List.set_cons_zero, List.set_cons_succ]
  refine qx_field (d := some 28) (at_of hops rfl rfl rfl rfl) (wnt hops rfl) Trym.field39_2 gz 0 rfl 2 rfl ?_
  simp only [Act.put, List.setIfInBounds_toArray, List.set_cons_zero, List.set_cons_succ]
  refine qx_load (d := some 29) (at_of hops rfl rfl rfl rfl) (wnt hops rfl) Trym.single3 gz 2 rfl (v 2) (fun w' hw => (drew_cell hw).trans ((unhide HZ).cell 2 (by omega))) ?_
  simp only [Act.put, List.setIfInBounds_toArray, List.set_cons_zero, List.set_cons_succ]
  refine qx_move (d := some 30) (at_of hops rfl rfl rfl rfl) (wnt hops rfl) (.pointer (some ⟨gf, 0, none⟩)) rfl ?_
  simp only [Act.put, List.setIfInBounds_toArray, List.set_cons_zero, List.set_cons_succ]
  refine qx_nilc (d := some 31) (at_of hops rfl rfl rfl rfl) (wnt hops rfl) gf 0 rfl ?_
  simp only [Act.put, List.setIfInBounds_toArray, List.set_cons_zero, List.set_cons_succ]
  refine qx_field (d := some 32) (at_of hops rfl rfl rfl rfl) (wnt hops rfl) Trym.field34_2 gf 0 rfl 2 rfl ?_
  simp only [Act.put, List.setIfInBounds_toArray, List.set_cons_zero, List.set_cons_succ]
  refine qx_load (d := some 33) (at_of hops rfl rfl rfl rfl) (wnt hops rfl) Trym.single3 gf 2 rfl (v 2) (fun w' hw => (drew_cell hw).trans ((unhide HF).cell 2 (by omega))) ?_
  simp only [Act.put, List.setIfInBounds_toArray, List.set_cons_zero, List.set_cons_succ]
  refine qx_eql (d := some 34) (at_of hops rfl rfl rfl rfl) (wnt hops rfl) (v 2) rfl rfl (unhide HQ).s2 ?_
  simp only [Act.put, List.setIfInBounds_toArray, List.set_cons_zero, List.set_cons_succ]
  refine qx_pick (d := some 35) (at_of hops rfl rfl rfl rfl) trivial rfl (.bool true) rfl ?_
  simp only [Act.put, List.setIfInBounds_toArray, List.set_cons_zero, List.set_cons_succ]
  refine qx_move (d := some 36) (at_of hops rfl rfl rfl rfl) trivial (.bool true) rfl ?_
  simp only [Act.put, List.setIfInBounds_toArray, List.set_cons_zero, List.set_cons_succ]
  refine qx_move (d := some 37) (at_of hops rfl rfl rfl rfl) (wnt hops rfl) (.pointer (some ⟨gz, 0, none⟩)) rfl ?_
  simp only [Act.put, List.setIfInBounds_toArray, List.set_cons_zero, List.set_cons_succ]
  refine qx_nilc (d := some 38) (at_of hops rfl rfl rfl rfl) (wnt hops rfl) gz 0 rfl ?_
  simp only [Act.put, List.setIfInBounds_toArray, List.set_cons_zero, List.set_cons_succ]
  refine qx_field (d := some 39) (at_of hops rfl rfl rfl rfl) (wnt hops rfl) Trym.field39_3 gz 0 rfl 3 rfl ?_
  simp only [Act.put, List.setIfInBounds_toArray, List.set_cons_zero, List.set_cons_succ]
  refine qx_load (d := some 40) (at_of hops rfl rfl rfl rfl) (wnt hops rfl) Trym.single3 gz 3 rfl (v 3) (fun w' hw => (drew_cell hw).trans ((unhide HZ).cell 3 (by omega))) ?_
  simp only [Act.put, List.setIfInBounds_toArray, List.set_cons_zero, List.set_cons_succ]
  refine qx_move (d := some 41) (at_of hops rfl rfl rfl rfl) (wnt hops rfl) (.pointer (some ⟨gf, 0, none⟩)) rfl ?_
  simp only [Act.put, List.setIfInBounds_toArray, List.set_cons_zero, List.set_cons_succ]
  refine qx_nilc (d := some 42) (at_of hops rfl rfl rfl rfl) (wnt hops rfl) gf 0 rfl ?_
  simp only [Act.put, List.setIfInBounds_toArray, List.set_cons_zero, List.set_cons_succ]
  refine qx_field (d := some 43) (at_of hops rfl rfl rfl rfl) (wnt hops rfl) Trym.field34_3 gf 0 rfl 3 rfl ?_
  simp only [Act.put, List.setIfInBounds_toArray, List.set_cons_zero, List.set_cons_succ]
  refine qx_load (d := some 44) (at_of hops rfl rfl rfl rfl) (wnt hops rfl) Trym.single3 gf 3 rfl (v 3) (fun w' hw => (drew_cell hw).trans ((unhide HF).cell 3 (by omega))) ?_
  simp only [Act.put, List.setIfInBounds_toArray, List.set_cons_zero, List.set_cons_succ]
  refine qx_eql (d := some 45) (at_of hops rfl rfl rfl rfl) (wnt hops rfl) (v 3) rfl rfl (unhide HQ).s3 ?_
  simp only [Act.put, List.setIfInBounds_toArray, List.set_cons_zero, List.set_cons_succ]
  refine qx_pick (d := some 46) (at_of hops rfl rfl rfl rfl) trivial rfl (.bool true) rfl ?_
  simp only [Act.put, List.setIfInBounds_toArray, List.set_cons_zero, List.set_cons_succ]
  refine qx_move (d := some 47) (at_of hops rfl rfl rfl rfl) trivial (.bool true) rfl ?_
  simp only [Act.put, List.setIfInBounds_toArray, List.set_cons_zero, List.set_cons_succ]
  refine qx_move (d := some 48) (at_of hops rfl rfl rfl rfl) (wnt hops rfl) (.pointer (some ⟨gz, 0, none⟩)) rfl ?_
  simp only [Act.put, List.setIfInBounds_toArray, List.set_cons_zero, List.set_cons_succ]
  refine qx_nilc (d := some 49) (at_of hops rfl rfl rfl rfl) (wnt hops rfl) gz 0 rfl ?_
  simp only [Act.put, List.setIfInBounds_toArray, List.set_cons_zero, List.set_cons_succ]
  refine qx_field (d := some 50) (at_of hops rfl rfl rfl rfl) (wnt hops rfl) Trym.field39_4 gz 0 rfl 4 rfl ?_
  simp only [Act.put, List.setIfInBounds_toArray, List.set_cons_zero, List.set_cons_succ]
  refine qx_load_agg (d := some 51) (at_of hops rfl rfl rfl rfl) (wnt hops rfl) Trym.agg22 gz 4 rfl (sh 4 v) (in_drewHZ (unhide HZ) 4 64 (by omega)) ?_
  simp only [Act.put, List.setIfInBounds_toArray, List.set_cons_zero, List.set_cons_succ]
  refine qx_move (d := some 52) (at_of hops rfl rfl rfl rfl) (wnt hops rfl) (.pointer (some ⟨gf, 0, none⟩)) rfl ?_
  simp only [Act.put, List.setIfInBounds_toArray, List.set_cons_zero, List.set_cons_succ]
  refine qx_nilc (d := some 53) (at_of hops rfl rfl rfl rfl) (wnt hops rfl) gf 0 rfl ?_
  simp only [Act.put, List.setIfInBounds_toArray, List.set_cons_zero, List.set_cons_succ]
  refine qx_field (d := some 54) (at_of hops rfl rfl rfl rfl) (wnt hops rfl) Trym.field34_4 gf 0 rfl 4 rfl ?_
  simp only [Act.put, List.setIfInBounds_toArray, List.set_cons_zero, List.set_cons_succ]
  refine qx_load_agg (d := some 55) (at_of hops rfl rfl rfl rfl) (wnt hops rfl) Trym.agg22 gf 4 rfl (sh 4 v) (in_drewHF (unhide HF) 4 64 (by omega) (by omega)) ?_
  simp only [Act.put, List.setIfInBounds_toArray, List.set_cons_zero, List.set_cons_succ]
  refine qx_eql (d := some 56) (at_of hops rfl rfl rfl rfl) (wnt hops rfl) (.agg (arr 64 (sh 4 v))) rfl rfl (unhide HQ).s4 ?_
  simp only [Act.put, List.setIfInBounds_toArray, List.set_cons_zero, List.set_cons_succ]
  refine qx_pick (d := some 57) (at_of hops rfl rfl rfl rfl) trivial rfl (.bool true) rfl ?_
  simp only [Act.put, List.setIfInBounds_toArray, List.set_cons_zero, List.set_cons_succ]
  refine qx_move (d := some 58) (at_of hops rfl rfl rfl rfl) trivial (.bool true) rfl ?_
  simp only [Act.put, List.setIfInBounds_toArray, List.set_cons_zero, List.set_cons_succ]
  refine qx_move (d := some 59) (at_of hops rfl rfl rfl rfl) (wnt hops rfl) (.pointer (some ⟨gz, 0, none⟩)) rfl ?_
  simp only [Act.put, List.setIfInBounds_toArray, List.set_cons_zero, List.set_cons_succ]
  refine qx_nilc (d := some 60) (at_of hops rfl rfl rfl rfl) (wnt hops rfl) gz 0 rfl ?_
  simp only [Act.put, List.setIfInBounds_toArray, List.set_cons_zero, List.set_cons_succ]
  refine qx_field (d := some 61) (at_of hops rfl rfl rfl rfl) (wnt hops rfl) Trym.field39_5 gz 0 rfl 68 rfl ?_
  simp only [Act.put, List.setIfInBounds_toArray, List.set_cons_zero, List.set_cons_succ]
  refine qx_load_agg (d := some 62) (at_of hops rfl rfl rfl rfl) (wnt hops rfl) Trym.agg23 gz 68 rfl (sh 68 v) (in_drewHZ (unhide HZ) 68 9 (by omega)) ?_
  simp only [Act.put, List.setIfInBounds_toArray, List.set_cons_zero, List.set_cons_succ]
  refine qx_move (d := some 63) (at_of hops rfl rfl rfl rfl) (wnt hops rfl) (.pointer (some ⟨gf, 0, none⟩)) rfl ?_
  simp only [Act.put, List.setIfInBounds_toArray, List.set_cons_zero, List.set_cons_succ]
  refine qx_nilc (d := some 64) (at_of hops rfl rfl rfl rfl) (wnt hops rfl) gf 0 rfl ?_
  simp only [Act.put, List.setIfInBounds_toArray, List.set_cons_zero, List.set_cons_succ]
  refine qx_field (d := some 65) (at_of hops rfl rfl rfl rfl) (wnt hops rfl) Trym.field34_5 gf 0 rfl 68 rfl ?_
  simp only [Act.put, List.setIfInBounds_toArray, List.set_cons_zero, List.set_cons_succ]
  refine qx_load_agg (d := some 66) (at_of hops rfl rfl rfl rfl) (wnt hops rfl) Trym.agg23 gf 68 rfl (sh 68 v) (in_drewHF (unhide HF) 68 9 (by omega) (by omega)) ?_
  simp only [Act.put, List.setIfInBounds_toArray, List.set_cons_zero, List.set_cons_succ]
  refine qx_eql (d := some 67) (at_of hops rfl rfl rfl rfl) (wnt hops rfl) (.agg (arr 9 (sh 68 v))) rfl rfl (unhide HQ).s68 ?_
  simp only [Act.put, List.setIfInBounds_toArray, List.set_cons_zero, List.set_cons_succ]
  refine qx_pick (d := some 68) (at_of hops rfl rfl rfl rfl) trivial rfl (.bool true) rfl ?_
  simp only [Act.put, List.setIfInBounds_toArray, List.set_cons_zero, List.set_cons_succ]
  refine qx_move (d := some 69) (at_of hops rfl rfl rfl rfl) trivial (.bool true) rfl ?_
  simp only [Act.put, List.setIfInBounds_toArray, List.set_cons_zero, List.set_cons_succ]
  refine qx_move (d := some 70) (at_of hops rfl rfl rfl rfl) (wnt hops rfl) (.pointer (some ⟨gz, 0, none⟩)) rfl ?_
  simp only [Act.put, List.setIfInBounds_toArray, List.set_cons_zero, List.set_cons_succ]
  refine qx_nilc (d := some 71) (at_of hops rfl rfl rfl rfl) (wnt hops rfl) gz 0 rfl ?_
  simp only [Act.put, List.setIfInBounds_toArray, List.set_cons_zero, List.set_cons_succ]
  refine qx_field (d := some 72) (at_of hops rfl rfl rfl rfl) (wnt hops rfl) Trym.field39_6 gz 0 rfl 77 rfl ?_
  simp only [Act.put, List.setIfInBounds_toArray, List.set_cons_zero, List.set_cons_succ]
  refine qx_load (d := some 73) (at_of hops rfl rfl rfl rfl) (wnt hops rfl) Trym.single3 gz 77 rfl (v 77) (fun w' hw => (drew_cell hw).trans ((unhide HZ).cell 77 (by omega))) ?_
  simp only [Act.put, List.setIfInBounds_toArray, List.set_cons_zero, List.set_cons_succ]
  refine qx_move (d := some 74) (at_of hops rfl rfl rfl rfl) (wnt hops rfl) (.pointer (some ⟨gf, 0, none⟩)) rfl ?_
  simp only [Act.put, List.setIfInBounds_toArray, List.set_cons_zero, List.set_cons_succ]
  refine qx_nilc (d := some 75) (at_of hops rfl rfl rfl rfl) (wnt hops rfl) gf 0 rfl ?_
  simp only [Act.put, List.setIfInBounds_toArray, List.set_cons_zero, List.set_cons_succ]
  refine qx_field (d := some 76) (at_of hops rfl rfl rfl rfl) (wnt hops rfl) Trym.field34_6 gf 0 rfl 77 rfl ?_
  simp only [Act.put, List.setIfInBounds_toArray, List.set_cons_zero, List.set_cons_succ]
  refine qx_load (d := some 77) (at_of hops rfl rfl rfl rfl) (wnt hops rfl) Trym.single3 gf 77 rfl (v 77) (fun w' hw => (drew_cell hw).trans ((unhide HF).cell 77 (by omega))) ?_
  simp only [Act.put, List.setIfInBounds_toArray, List.set_cons_zero, List.set_cons_succ]
  refine qx_eql (d := some 78) (at_of hops rfl rfl rfl rfl) (wnt hops rfl) (v 77) rfl rfl (unhide HQ).s77 ?_
  simp only [Act.put, List.setIfInBounds_toArray, List.set_cons_zero, List.set_cons_succ]
  refine qx_pick (d := some 79) (at_of hops rfl rfl rfl rfl) trivial rfl (.bool true) rfl ?_
  simp only [Act.put, List.setIfInBounds_toArray, List.set_cons_zero, List.set_cons_succ]
  refine qx_move (d := some 80) (at_of hops rfl rfl rfl rfl) trivial (.bool true) rfl ?_
  simp only [Act.put, List.setIfInBounds_toArray, List.set_cons_zero, List.set_cons_succ]
  refine qx_move (d := some 81) (at_of hops rfl rfl rfl rfl) (wnt hops rfl) (.pointer (some ⟨gz, 0, none⟩)) rfl ?_
  simp only [Act.put, List.setIfInBounds_toArray, List.set_cons_zero, List.set_cons_succ]
  refine qx_nilc (d := some 82) (at_of hops rfl rfl rfl rfl) (wnt hops rfl) gz 0 rfl ?_
  simp only [Act.put, List.setIfInBounds_toArray, List.set_cons_zero, List.set_cons_succ]
  refine qx_field (d := some 83) (at_of hops rfl rfl rfl rfl) (wnt hops rfl) Trym.field39_7 gz 0 rfl 78 rfl ?_
  simp only [Act.put, List.setIfInBounds_toArray, List.set_cons_zero, List.set_cons_succ]
  refine qx_load (d := some 84) (at_of hops rfl rfl rfl rfl) (wnt hops rfl) Trym.single4 gz 78 rfl (v 78) (fun w' hw => (drew_cell hw).trans ((unhide HZ).cell 78 (by omega))) ?_
  simp only [Act.put, List.setIfInBounds_toArray, List.set_cons_zero, List.set_cons_succ]
  refine qx_move (d := some 85) (at_of hops rfl rfl rfl rfl) (wnt hops rfl) (.pointer (some ⟨gf, 0, none⟩)) rfl ?_
  simp only [Act.put, List.setIfInBounds_toArray, List.set_cons_zero, List.set_cons_succ]
  refine qx_nilc (d := some 86) (at_of hops rfl rfl rfl rfl) (wnt hops rfl) gf 0 rfl ?_
  simp only [Act.put, List.setIfInBounds_toArray, List.set_cons_zero, List.set_cons_succ]
  refine qx_field (d := some 87) (at_of hops rfl rfl rfl rfl) (wnt hops rfl) Trym.field34_7 gf 0 rfl 78 rfl ?_
  simp only [Act.put, List.setIfInBounds_toArray, List.set_cons_zero, List.set_cons_succ]
  refine qx_load (d := some 88) (at_of hops rfl rfl rfl rfl) (wnt hops rfl) Trym.single4 gf 78 rfl (v 78) (fun w' hw => (drew_cell hw).trans ((unhide HF).cell 78 (by omega))) ?_
  simp only [Act.put, List.setIfInBounds_toArray, List.set_cons_zero, List.set_cons_succ]
  refine qx_eql (d := some 89) (at_of hops rfl rfl rfl rfl) (wnt hops rfl) (v 78) rfl rfl (unhide HQ).s78 ?_
  simp only [Act.put, List.setIfInBounds_toArray, List.set_cons_zero, List.set_cons_succ]
  refine qx_pick (d := some 90) (at_of hops rfl rfl rfl rfl) trivial rfl (.bool true) rfl ?_
  simp only [Act.put, List.setIfInBounds_toArray, List.set_cons_zero, List.set_cons_succ]
  refine qx_move (d := some 91) (at_of hops rfl rfl rfl rfl) trivial (.bool true) rfl ?_
  simp only [Act.put, List.setIfInBounds_toArray, List.set_cons_zero, List.set_cons_succ]
  refine qx_move (d := some 92) (at_of hops rfl rfl rfl rfl) (wnt hops rfl) (.pointer (some ⟨gz, 0, none⟩)) rfl ?_
  simp only [Act.put, List.setIfInBounds_toArray, List.set_cons_zero, List.set_cons_succ]
  refine qx_nilc (d := some 93) (at_of hops rfl rfl rfl rfl) (wnt hops rfl) gz 0 rfl ?_
  simp only [Act.put, List.setIfInBounds_toArray, List.set_cons_zero, List.set_cons_succ]
  refine qx_field (d := some 94) (at_of hops rfl rfl rfl rfl) (wnt hops rfl) Trym.field39_8 gz 0 rfl 79 rfl ?_
  simp only [Act.put, List.setIfInBounds_toArray, List.set_cons_zero, List.set_cons_succ]
  refine qx_load (d := some 95) (at_of hops rfl rfl rfl rfl) (wnt hops rfl) Trym.single4 gz 79 rfl (v 79) (fun w' hw => (drew_cell hw).trans ((unhide HZ).cell 79 (by omega))) ?_
  simp only [Act.put, List.setIfInBounds_toArray, List.set_cons_zero, List.set_cons_succ]
  refine qx_move (d := some 96) (at_of hops rfl rfl rfl rfl) (wnt hops rfl) (.pointer (some ⟨gf, 0, none⟩)) rfl ?_
  simp only [Act.put, List.setIfInBounds_toArray, List.set_cons_zero, List.set_cons_succ]
  refine qx_nilc (d := some 97) (at_of hops rfl rfl rfl rfl) (wnt hops rfl) gf 0 rfl ?_
  simp only [Act.put, List.setIfInBounds_toArray, List.set_cons_zero, List.set_cons_succ]
  refine qx_field (d := some 98) (at_of hops rfl rfl rfl rfl) (wnt hops rfl) Trym.field34_8 gf 0 rfl 79 rfl ?_
  simp only [Act.put, List.setIfInBounds_toArray, List.set_cons_zero, List.set_cons_succ]
  refine qx_load (d := some 99) (at_of hops rfl rfl rfl rfl) (wnt hops rfl) Trym.single4 gf 79 rfl (v 79) (fun w' hw => (drew_cell hw).trans ((unhide HF).cell 79 (by omega))) ?_
  simp only [Act.put, List.setIfInBounds_toArray, List.set_cons_zero, List.set_cons_succ]
  refine qx_eql (d := some 100) (at_of hops rfl rfl rfl rfl) (wnt hops rfl) (v 79) rfl rfl (unhide HQ).s79 ?_
  simp only [Act.put, List.setIfInBounds_toArray, List.set_cons_zero, List.set_cons_succ]
  refine qx_pick (d := some 101) (at_of hops rfl rfl rfl rfl) trivial rfl (.bool true) rfl ?_
  simp only [Act.put, List.setIfInBounds_toArray, List.set_cons_zero, List.set_cons_succ]
  refine qx_move (d := some 102) (at_of hops rfl rfl rfl rfl) trivial (.bool true) rfl ?_
  simp only [Act.put, List.setIfInBounds_toArray, List.set_cons_zero, List.set_cons_succ]
  refine qx_move (d := some 103) (at_of hops rfl rfl rfl rfl) (wnt hops rfl) (.pointer (some ⟨gz, 0, none⟩)) rfl ?_
  simp only [Act.put, List.setIfInBounds_toArray, List.set_cons_zero, List.set_cons_succ]
  refine qx_nilc (d := some 104) (at_of hops rfl rfl rfl rfl) (wnt hops rfl) gz 0 rfl ?_
  simp only [Act.put, List.setIfInBounds_toArray, List.set_cons_zero, List.set_cons_succ]
  refine qx_field (d := some 105) (at_of hops rfl rfl rfl rfl) (wnt hops rfl) Trym.field39_9 gz 0 rfl 80 rfl ?_
  simp only [Act.put, List.setIfInBounds_toArray, List.set_cons_zero, List.set_cons_succ]
  refine qx_load (d := some 106) (at_of hops rfl rfl rfl rfl) (wnt hops rfl) Trym.single3 gz 80 rfl (v 80) (fun w' hw => (drew_cell hw).trans ((unhide HZ).cell 80 (by omega))) ?_
  simp only [Act.put, List.setIfInBounds_toArray, List.set_cons_zero, List.set_cons_succ]
  refine qx_move (d := some 107) (at_of hops rfl rfl rfl rfl) (wnt hops rfl) (.pointer (some ⟨gf, 0, none⟩)) rfl ?_
  simp only [Act.put, List.setIfInBounds_toArray, List.set_cons_zero, List.set_cons_succ]
  refine qx_nilc (d := some 108) (at_of hops rfl rfl rfl rfl) (wnt hops rfl) gf 0 rfl ?_
  simp only [Act.put, List.setIfInBounds_toArray, List.set_cons_zero, List.set_cons_succ]
  refine qx_field (d := some 109) (at_of hops rfl rfl rfl rfl) (wnt hops rfl) Trym.field34_9 gf 0 rfl 80 rfl ?_
  simp only [Act.put, List.setIfInBounds_toArray, List.set_cons_zero, List.set_cons_succ]
  refine qx_load (d := some 110) (at_of hops rfl rfl rfl rfl) (wnt hops rfl) Trym.single3 gf 80 rfl (v 80) (fun w' hw => (drew_cell hw).trans ((unhide HF).cell 80 (by omega))) ?_
  simp only [Act.put, List.setIfInBounds_toArray, List.set_cons_zero, List.set_cons_succ]
  refine qx_eql (d := some 111) (at_of hops rfl rfl rfl rfl) (wnt hops rfl) (v 80) rfl rfl (unhide HQ).s80 ?_
  simp only [Act.put, List.setIfInBounds_toArray, List.set_cons_zero, List.set_cons_succ]
  refine qx_pick (d := some 112) (at_of hops rfl rfl rfl rfl) trivial rfl (.bool true) rfl ?_
  simp only [Act.put, List.setIfInBounds_toArray, List.set_cons_zero, List.set_cons_succ]
  refine qx_move (d := some 113) (at_of hops rfl rfl rfl rfl) trivial (.bool true) rfl ?_
  simp only [Act.put, List.setIfInBounds_toArray, List.set_cons_zero, List.set_cons_succ]
  refine qx_move (d := some 114) (at_of hops rfl rfl rfl rfl) (wnt hops rfl) (.pointer (some ⟨gz, 0, none⟩)) rfl ?_
  simp only [Act.put, List.setIfInBounds_toArray, List.set_cons_zero, List.set_cons_succ]
  refine qx_nilc (d := some 115) (at_of hops rfl rfl rfl rfl) (wnt hops rfl) gz 0 rfl ?_
  simp only [Act.put, List.setIfInBounds_toArray, List.set_cons_zero, List.set_cons_succ]
  refine qx_field (d := some 116) (at_of hops rfl rfl rfl rfl) (wnt hops rfl) Trym.field39_10 gz 0 rfl 81 rfl ?_
  simp only [Act.put, List.setIfInBounds_toArray, List.set_cons_zero, List.set_cons_succ]
  refine qx_load (d := some 117) (at_of hops rfl rfl rfl rfl) (wnt hops rfl) Trym.single31 gz 81 rfl (v 81) (fun w' hw => (drew_cell hw).trans ((unhide HZ).cell 81 (by omega))) ?_
  simp only [Act.put, List.setIfInBounds_toArray, List.set_cons_zero, List.set_cons_succ]
  refine qx_move (d := some 118) (at_of hops rfl rfl rfl rfl) (wnt hops rfl) (.pointer (some ⟨gf, 0, none⟩)) rfl ?_
  simp only [Act.put, List.setIfInBounds_toArray, List.set_cons_zero, List.set_cons_succ]
  refine qx_nilc (d := some 119) (at_of hops rfl rfl rfl rfl) (wnt hops rfl) gf 0 rfl ?_
  simp only [Act.put, List.setIfInBounds_toArray, List.set_cons_zero, List.set_cons_succ]
  refine qx_field (d := some 120) (at_of hops rfl rfl rfl rfl) (wnt hops rfl) Trym.field34_10 gf 0 rfl 81 rfl ?_
  simp only [Act.put, List.setIfInBounds_toArray, List.set_cons_zero, List.set_cons_succ]
  refine qx_load (d := some 121) (at_of hops rfl rfl rfl rfl) (wnt hops rfl) Trym.single31 gf 81 rfl (v 81) (fun w' hw => (drew_cell hw).trans ((unhide HF).cell 81 (by omega))) ?_
  simp only [Act.put, List.setIfInBounds_toArray, List.set_cons_zero, List.set_cons_succ]
  refine qx_eql (d := some 122) (at_of hops rfl rfl rfl rfl) (wnt hops rfl) (v 81) rfl rfl (unhide HQ).s81 ?_
  simp only [Act.put, List.setIfInBounds_toArray, List.set_cons_zero, List.set_cons_succ]
  refine qx_pick (d := some 123) (at_of hops rfl rfl rfl rfl) trivial rfl (.bool true) rfl ?_
  simp only [Act.put, List.setIfInBounds_toArray, List.set_cons_zero, List.set_cons_succ]
  refine qx_move (d := some 124) (at_of hops rfl rfl rfl rfl) trivial (.bool true) rfl ?_
  simp only [Act.put, List.setIfInBounds_toArray, List.set_cons_zero, List.set_cons_succ]
  refine qx_move (d := some 125) (at_of hops rfl rfl rfl rfl) (wnt hops rfl) (.pointer (some ⟨gz, 0, none⟩)) rfl ?_
  simp only [Act.put, List.setIfInBounds_toArray, List.set_cons_zero, List.set_cons_succ]
  refine qx_nilc (d := some 126) (at_of hops rfl rfl rfl rfl) (wnt hops rfl) gz 0 rfl ?_
  simp only [Act.put, List.setIfInBounds_toArray, List.set_cons_zero, List.set_cons_succ]
  refine qx_field (d := some 127) (at_of hops rfl rfl rfl rfl) (wnt hops rfl) Trym.field39_11 gz 0 rfl 82 rfl ?_
  simp only [Act.put, List.setIfInBounds_toArray, List.set_cons_zero, List.set_cons_succ]
  refine qx_load (d := some 128) (at_of hops rfl rfl rfl rfl) (wnt hops rfl) Trym.single3 gz 82 rfl (v 82) (fun w' hw => (drew_cell hw).trans ((unhide HZ).cell 82 (by omega))) ?_
  simp only [Act.put, List.setIfInBounds_toArray, List.set_cons_zero, List.set_cons_succ]
  refine qx_move (d := some 129) (at_of hops rfl rfl rfl rfl) (wnt hops rfl) (.pointer (some ⟨gf, 0, none⟩)) rfl ?_
  simp only [Act.put, List.setIfInBounds_toArray, List.set_cons_zero, List.set_cons_succ]
  refine qx_nilc (d := some 130) (at_of hops rfl rfl rfl rfl) (wnt hops rfl) gf 0 rfl ?_
  simp only [Act.put, List.setIfInBounds_toArray, List.set_cons_zero, List.set_cons_succ]
  refine qx_field (d := some 131) (at_of hops rfl rfl rfl rfl) (wnt hops rfl) Trym.field34_11 gf 0 rfl 82 rfl ?_
  simp only [Act.put, List.setIfInBounds_toArray, List.set_cons_zero, List.set_cons_succ]
  refine qx_load (d := some 132) (at_of hops rfl rfl rfl rfl) (wnt hops rfl) Trym.single3 gf 82 rfl (v 82) (fun w' hw => (drew_cell hw).trans ((unhide HF).cell 82 (by omega))) ?_
  simp only [Act.put, List.setIfInBounds_toArray, List.set_cons_zero, List.set_cons_succ]
  refine qx_eql (d := some 133) (at_of hops rfl rfl rfl rfl) (wnt hops rfl) (v 82) rfl rfl (unhide HQ).s82 ?_
  simp only [Act.put, List.setIfInBounds_toArray, List.set_cons_zero, List.set_cons_succ]
  refine qx_pick (d := some 134) (at_of hops rfl rfl rfl rfl) trivial rfl (.bool true) rfl ?_
  simp only [Act.put, List.setIfInBounds_toArray, List.set_cons_zero, List.set_cons_succ]
  refine qx_move (d := some 135) (at_of hops rfl rfl rfl rfl) trivial (.bool true) rfl ?_
  simp only [Act.put, List.setIfInBounds_toArray, List.set_cons_zero, List.set_cons_succ]
  refine qx_move (d := some 136) (at_of hops rfl rfl rfl rfl) (wnt hops rfl) (.pointer (some ⟨gz, 0, none⟩)) rfl ?_
  simp only [Act.put, List.setIfInBounds_toArray, List.set_cons_zero, List.set_cons_succ]
  refine qx_nilc (d := some 137) (at_of hops rfl rfl rfl rfl) (wnt hops rfl) gz 0 rfl ?_
  simp only [Act.put, List.setIfInBounds_toArray, List.set_cons_zero, List.set_cons_succ]
  refine qx_field (d := some 138) (at_of hops rfl rfl rfl rfl) (wnt hops rfl) Trym.field39_12 gz 0 rfl 83 rfl ?_
  simp only [Act.put, List.setIfInBounds_toArray, List.set_cons_zero, List.set_cons_succ]
  refine qx_load (d := some 139) (at_of hops rfl rfl rfl rfl) (wnt hops rfl) Trym.single4 gz 83 rfl (v 83) (fun w' hw => (drew_cell hw).trans ((unhide HZ).cell 83 (by omega))) ?_
  simp only [Act.put, List.setIfInBounds_toArray, List.set_cons_zero, List.set_cons_succ]
  refine qx_move (d := some 140) (at_of hops rfl rfl rfl rfl) (wnt hops rfl) (.pointer (some ⟨gf, 0, none⟩)) rfl ?_
  simp only [Act.put, List.setIfInBounds_toArray, List.set_cons_zero, List.set_cons_succ]
  refine qx_nilc (d := some 141) (at_of hops rfl rfl rfl rfl) (wnt hops rfl) gf 0 rfl ?_
  simp only [Act.put, List.setIfInBounds_toArray, List.set_cons_zero, List.set_cons_succ]
  refine qx_field (d := some 142) (at_of hops rfl rfl rfl rfl) (wnt hops rfl) Trym.field34_12 gf 0 rfl 83 rfl ?_
  simp only [Act.put, List.setIfInBounds_toArray, List.set_cons_zero, List.set_cons_succ]
  refine qx_load (d := some 143) (at_of hops rfl rfl rfl rfl) (wnt hops rfl) Trym.single4 gf 83 rfl (v 83) (fun w' hw => (drew_cell hw).trans ((unhide HF).cell 83 (by omega))) ?_
  simp only [Act.put, List.setIfInBounds_toArray, List.set_cons_zero, List.set_cons_succ]
  refine qx_eql (d := some 144) (at_of hops rfl rfl rfl rfl) (wnt hops rfl) (v 83) rfl rfl (unhide HQ).s83 ?_
  simp only [Act.put, List.setIfInBounds_toArray, List.set_cons_zero, List.set_cons_succ]
  refine qx_pick (d := some 145) (at_of hops rfl rfl rfl rfl) trivial rfl (.bool true) rfl ?_
  simp only [Act.put, List.setIfInBounds_toArray, List.set_cons_zero, List.set_cons_succ]
  refine qx_move (d := some 146) (at_of hops rfl rfl rfl rfl) trivial (.bool true) rfl ?_
  simp only [Act.put, List.setIfInBounds_toArray, List.set_cons_zero, List.set_cons_succ]
  refine qx_move (d := some 147) (at_of hops rfl rfl rfl rfl) (wnt hops rfl) (.pointer (some ⟨gz, 0, none⟩)) rfl ?_
  simp only [Act.put, List.setIfInBounds_toArray, List.set_cons_zero, List.set_cons_succ]
  refine qx_nilc (d := some 148) (at_of hops rfl rfl rfl rfl) (wnt hops rfl) gz 0 rfl ?_
  simp only [Act.put, List.setIfInBounds_toArray, List.set_cons_zero, List.set_cons_succ]
  refine qx_field (d := some 149) (at_of hops rfl rfl rfl rfl) (wnt hops rfl) Trym.field39_13 gz 0 rfl 84 rfl ?_
  simp only [Act.put, List.setIfInBounds_toArray, List.set_cons_zero, List.set_cons_succ]
  refine qx_load (d := some 150) (at_of hops rfl rfl rfl rfl) (wnt hops rfl) Trym.single3 gz 84 rfl (v 84) (fun w' hw => (drew_cell hw).trans ((unhide HZ).cell 84 (by omega))) ?_
  simp only [Act.put, List.setIfInBounds_toArray, List.set_cons_zero, List.set_cons_succ]
  refine qx_move (d := some 151) (at_of hops rfl rfl rfl rfl) (wnt hops rfl) (.pointer (some ⟨gf, 0, none⟩)) rfl ?_
  simp only [Act.put, List.setIfInBounds_toArray, List.set_cons_zero, List.set_cons_succ]
  refine qx_nilc (d := some 152) (at_of hops rfl rfl rfl rfl) (wnt hops rfl) gf 0 rfl ?_
  simp only [Act.put, List.setIfInBounds_toArray, List.set_cons_zero, List.set_cons_succ]
  refine qx_field (d := some 153) (at_of hops rfl rfl rfl rfl) (wnt hops rfl) Trym.field34_13 gf 0 rfl 84 rfl ?_
  simp only [Act.put, List.setIfInBounds_toArray, List.set_cons_zero, List.set_cons_succ]
  refine qx_load (d := some 154) (at_of hops rfl rfl rfl rfl) (wnt hops rfl) Trym.single3 gf 84 rfl (v 84) (fun w' hw => (drew_cell hw).trans ((unhide HF).cell 84 (by omega))) ?_
  simp only [Act.put, List.setIfInBounds_toArray, List.set_cons_zero, List.set_cons_succ]
  refine qx_eql (d := some 155) (at_of hops rfl rfl rfl rfl) (wnt hops rfl) (v 84) rfl rfl (unhide HQ).s84 ?_
  simp only [Act.put, List.setIfInBounds_toArray, List.set_cons_zero, List.set_cons_succ]
  refine qx_pick (d := some 156) (at_of hops rfl rfl rfl rfl) trivial rfl (.bool true) rfl ?_
  simp only [Act.put, List.setIfInBounds_toArray, List.set_cons_zero, List.set_cons_succ]
  refine qx_move (d := some 157) (at_of hops rfl rfl rfl rfl) trivial (.bool true) rfl ?_
  simp only [Act.put, List.setIfInBounds_toArray, List.set_cons_zero, List.set_cons_succ]
  refine qx_move (d := some 158) (at_of hops rfl rfl rfl rfl) (wnt hops rfl) (.pointer (some ⟨gz, 0, none⟩)) rfl ?_
  simp only [Act.put, List.setIfInBounds_toArray, List.set_cons_zero, List.set_cons_succ]
  refine qx_nilc (d := some 159) (at_of hops rfl rfl rfl rfl) (wnt hops rfl) gz 0 rfl ?_
  simp only [Act.put, List.setIfInBounds_toArray, List.set_cons_zero, List.set_cons_succ]
  refine qx_field (d := some 160) (at_of hops rfl rfl rfl rfl) (wnt hops rfl) Trym.field39_14 gz 0 rfl 85 rfl ?_
  simp only [Act.put, List.setIfInBounds_toArray, List.set_cons_zero, List.set_cons_succ]
  refine qx_load (d := some 161) (at_of hops rfl rfl rfl rfl) (wnt hops rfl) Trym.single4 gz 85 rfl (v 85) (fun w' hw => (drew_cell hw).trans ((unhide HZ).cell 85 (by omega))) ?_
  simp only [Act.put, List.setIfInBounds_toArray, List.set_cons_zero, List.set_cons_succ]
  refine qx_move (d := some 162) (at_of hops rfl rfl rfl rfl) (wnt hops rfl) (.pointer (some ⟨gf, 0, none⟩)) rfl ?_
  simp only [Act.put, List.setIfInBounds_toArray, List.set_cons_zero, List.set_cons_succ]
  refine qx_nilc (d := some 163) (at_of hops rfl rfl rfl rfl) (wnt hops rfl) gf 0 rfl ?_
  simp only [Act.put, List.setIfInBounds_toArray, List.set_cons_zero, List.set_cons_succ]
  refine qx_field (d := some 164) (at_of hops rfl rfl rfl rfl) (wnt hops rfl) Trym.field34_14 gf 0 rfl 85 rfl ?_
  simp only [Act.put, List.setIfInBounds_toArray, List.set_cons_zero, List.set_cons_succ]
  refine qx_load (d := some 165) (at_of hops rfl rfl rfl rfl) (wnt hops rfl) Trym.single4 gf 85 rfl (v 85) (fun w' hw => (drew_cell hw).trans ((unhide HF).cell 85 (by omega))) ?_
  simp only [Act.put, List.setIfInBounds_toArray, List.set_cons_zero, List.set_cons_succ]
  refine qx_eql (d := some 166) (at_of hops rfl rfl rfl rfl) (wnt hops rfl) (v 85) rfl rfl (unhide HQ).s85 ?_
  simp only [Act.put, List.setIfInBounds_toArray, List.set_cons_zero, List.set_cons_succ]
  refine qx_pick (d := some 167) (at_of hops rfl rfl rfl rfl) trivial rfl (.bool true) rfl ?_
  simp only [Act.put, List.setIfInBounds_toArray, List.set_cons_zero, List.set_cons_succ]
  refine qx_move (d := some 168) (at_of hops rfl rfl rfl rfl) trivial (.bool true) rfl ?_
  simp only [Act.put, List.setIfInBounds_toArray, List.set_cons_zero, List.set_cons_succ]
  refine qx_move (d := some 169) (at_of hops rfl rfl rfl rfl) (wnt hops rfl) (.pointer (some ⟨gz, 0, none⟩)) rfl ?_
  simp only [Act.put, List.setIfInBounds_toArray, List.set_cons_zero, List.set_cons_succ]
  refine qx_nilc (d := some 170) (at_of hops rfl rfl rfl rfl) (wnt hops rfl) gz 0 rfl ?_
  simp only [Act.put, List.setIfInBounds_toArray, List.set_cons_zero, List.set_cons_succ]
  refine qx_field (d := some 171) (at_of hops rfl rfl rfl rfl) (wnt hops rfl) Trym.field39_15 gz 0 rfl 86 rfl ?_
  simp only [Act.put, List.setIfInBounds_toArray, List.set_cons_zero, List.set_cons_succ]
  refine qx_load (d := some 172) (at_of hops rfl rfl rfl rfl) (wnt hops rfl) Trym.single4 gz 86 rfl (v 86) (fun w' hw => (drew_cell hw).trans ((unhide HZ).cell 86 (by omega))) ?_
  simp only [Act.put, List.setIfInBounds_toArray, List.set_cons_zero, List.set_cons_succ]
  refine qx_move (d := some 173) (at_of hops rfl rfl rfl rfl) (wnt hops rfl) (.pointer (some ⟨gf, 0, none⟩)) rfl ?_
  simp only [Act.put, List.setIfInBounds_toArray, List.set_cons_zero, List.set_cons_succ]
  refine qx_nilc (d := some 174) (at_of hops rfl rfl rfl rfl) (wnt hops rfl) gf 0 rfl ?_
  simp only [Act.put, List.setIfInBounds_toArray, List.set_cons_zero, List.set_cons_succ]
  refine qx_field (d := some 175) (at_of hops rfl rfl rfl rfl) (wnt hops rfl) Trym.field34_15 gf 0 rfl 86 rfl ?_
  simp only [Act.put, List.setIfInBounds_toArray, List.set_cons_zero, List.set_cons_succ]
  refine qx_load (d := some 176) (at_of hops rfl rfl rfl rfl) (wnt hops rfl) Trym.single4 gf 86 rfl (v 86) (fun w' hw => (drew_cell hw).trans ((unhide HF).cell 86 (by omega))) ?_
  simp only [Act.put, List.setIfInBounds_toArray, List.set_cons_zero, List.set_cons_succ]
  refine qx_eql (d := some 177) (at_of hops rfl rfl rfl rfl) (wnt hops rfl) (v 86) rfl rfl (unhide HQ).s86 ?_
  simp only [Act.put, List.setIfInBounds_toArray, List.set_cons_zero, List.set_cons_succ]
  refine qx_pick (d := some 178) (at_of hops rfl rfl rfl rfl) trivial rfl (.bool true) rfl ?_
  simp only [Act.put, List.setIfInBounds_toArray, List.set_cons_zero, List.set_cons_succ]
  refine qx_move (d := some 179) (at_of hops rfl rfl rfl rfl) trivial (.bool true) rfl ?_
  simp only [Act.put, List.setIfInBounds_toArray, List.set_cons_zero, List.set_cons_succ]
  refine qx_move (d := some 180) (at_of hops rfl rfl rfl rfl) (wnt hops rfl) (.pointer (some ⟨gz, 0, none⟩)) rfl ?_
  simp only [Act.put, List.setIfInBounds_toArray, List.set_cons_zero, List.set_cons_succ]
  refine qx_nilc (d := some 181) (at_of hops rfl rfl rfl rfl) (wnt hops rfl) gz 0 rfl ?_
  simp only [Act.put, List.setIfInBounds_toArray, List.set_cons_zero, List.set_cons_succ]
  refine qx_field (d := some 182) (at_of hops rfl rfl rfl rfl) (wnt hops rfl) Trym.field39_16 gz 0 rfl 87 rfl ?_
  simp only [Act.put, List.setIfInBounds_toArray, List.set_cons_zero, List.set_cons_succ]
  refine qx_load (d := some 183) (at_of hops rfl rfl rfl rfl) (wnt hops rfl) Trym.single32 gz 87 rfl (.slice a l l) (fun w' hw => (drew_cell hw).trans (((unhide HZ).cell 87 (by omega)).trans (congrArg some (unhide HV)))) ?_
  simp only [Act.put, List.setIfInBounds_toArray, List.set_cons_zero, List.set_cons_succ]
  refine qx_move (d := some 184) (at_of hops rfl rfl rfl rfl) (wnt hops rfl) (.pointer (some ⟨gf, 0, none⟩)) rfl ?_
  simp only [Act.put, List.setIfInBounds_toArray, List.set_cons_zero, List.set_cons_succ]
  refine qx_nilc (d := some 185) (at_of hops rfl rfl rfl rfl) (wnt hops rfl) gf 0 rfl ?_
  simp only [Act.put, List.setIfInBounds_toArray, List.set_cons_zero, List.set_cons_succ]
  refine qx_field (d := some 186) (at_of hops rfl rfl rfl rfl) (wnt hops rfl) Trym.field34_16 gf 0 rfl 87 rfl ?_
  simp only [Act.put, List.setIfInBounds_toArray, List.set_cons_zero, List.set_cons_succ]
  refine qx_load (d := some 187) (at_of hops rfl rfl rfl rfl) (wnt hops rfl) Trym.single32 gf 87 rfl (.slice b l l) (fun w' hw => (drew_cell hw).trans ((unhide HF).cell 87 (by omega))) ?_
  simp only [Act.put, List.setIfInBounds_toArray, List.set_cons_zero, List.set_cons_succ]
  refine qx_call (d := some 188) (at_of hops rfl rfl rfl rfl) (wnt hops rfl) 27 #[.slice a l l, .slice b l l] (fun o ho _ => by simp only [execOp, ho]; kernel_rfl) (.bool true) (fun w' hw => ?_) ?_
  · obtain ⟨q, rfl⟩ := hw
    refine (intsEq_same a b l e (w.drewN q) hl hab ((unhide HIA).next (drew_below w q)) ((unhide HIB).next (drew_below w q))).mono ?_
    rintro r w2 ⟨rfl, q2, rfl⟩
    exact ⟨rfl, q + q2, World.drewN_drewN _ _ _⟩
  simp only [Act.put, List.setIfInBounds_toArray, List.set_cons_zero, List.set_cons_succ]
  refine qx_pick (d := some 189) (at_of hops rfl rfl rfl rfl) trivial rfl (.bool true) rfl ?_
  simp only [Act.put, List.setIfInBounds_toArray, List.set_cons_zero, List.set_cons_succ]
  refine qx_move (d := some 190) (at_of hops rfl rfl rfl rfl) trivial (.bool true) rfl ?_
  simp only [Act.put, List.setIfInBounds_toArray, List.set_cons_zero, List.set_cons_succ]
  refine qx_move (d := some 191) (at_of hops rfl rfl rfl rfl) (wnt hops rfl) (.pointer (some ⟨gz, 0, none⟩)) rfl ?_
  simp only [Act.put, List.setIfInBounds_toArray, List.set_cons_zero, List.set_cons_succ]
  refine qx_nilc (d := some 192) (at_of hops rfl rfl rfl rfl) (wnt hops rfl) gz 0 rfl ?_
  simp only [Act.put, List.setIfInBounds_toArray, List.set_cons_zero, List.set_cons_succ]
  refine qx_field (d := some 193) (at_of hops rfl rfl rfl rfl) (wnt hops rfl) Trym.field39_17 gz 0 rfl 88 rfl ?_
  simp only [Act.put, List.setIfInBounds_toArray, List.set_cons_zero, List.set_cons_succ]
  refine qx_load (d := some 194) (at_of hops rfl rfl rfl rfl) (wnt hops rfl) Trym.single31 gz 88 rfl (v 88) (fun w' hw => (drew_cell hw).trans ((unhide HZ).cell 88 (by omega))) ?_
  simp only [Act.put, List.setIfInBounds_toArray, List.set_cons_zero, List.set_cons_succ]
  refine qx_move (d := some 195) (at_of hops rfl rfl rfl rfl) (wnt hops rfl) (.pointer (some ⟨gf, 0, none⟩)) rfl ?_
  simp only [Act.put, List.setIfInBounds_toArray, List.set_cons_zero, List.set_cons_succ]
  refine qx_nilc (d := some 196) (at_of hops rfl rfl rfl rfl) (wnt hops rfl) gf 0 rfl ?_
  simp only [Act.put, List.setIfInBounds_toArray, List.set_cons_zero, List.set_cons_succ]
  refine qx_field (d := some 197) (at_of hops rfl rfl rfl rfl) (wnt hops rfl) Trym.field34_17 gf 0 rfl 88 rfl ?_
  simp only [Act.put, List.setIfInBounds_toArray, List.set_cons_zero, List.set_cons_succ]
  refine qx_load (d := some 198) (at_of hops rfl rfl rfl rfl) (wnt hops rfl) Trym.single31 gf 88 rfl (v 88) (fun w' hw => (drew_cell hw).trans ((unhide HF).cell 88 (by omega))) ?_
  simp only [Act.put, List.setIfInBounds_toArray, List.set_cons_zero, List.set_cons_succ]
  refine qx_eql (d := some 199) (at_of hops rfl rfl rfl rfl) (wnt hops rfl) (v 88) rfl rfl (unhide HQ).s88 ?_
  simp only [Act.put, List.setIfInBounds_toArray, List.set_cons_zero, List.set_cons_succ]
  refine qx_pick (d := some 200) (at_of hops rfl rfl rfl rfl) trivial rfl (.bool true) rfl ?_
  simp only [Act.put, List.setIfInBounds_toArray, List.set_cons_zero, List.set_cons_succ]
  refine qx_move (d := some 201) (at_of hops rfl rfl rfl rfl) trivial (.bool true) rfl ?_
  simp only [Act.put, List.setIfInBounds_toArray, List.set_cons_zero, List.set_cons_succ]
  refine qx_move (d := some 202) (at_of hops rfl rfl rfl rfl) (wnt hops rfl) (.pointer (some ⟨gz, 0, none⟩)) rfl ?_
  simp only [Act.put, List.setIfInBounds_toArray, List.set_cons_zero, List.set_cons_succ]
  refine qx_nilc (d := some 203) (at_of hops rfl rfl rfl rfl) (wnt hops rfl) gz 0 rfl ?_
  simp only [Act.put, List.setIfInBounds_toArray, List.set_cons_zero, List.set_cons_succ]
  refine qx_field (d := some 204) (at_of hops rfl rfl rfl rfl) (wnt hops rfl) Trym.field39_18 gz 0 rfl 89 rfl ?_
  simp only [Act.put, List.setIfInBounds_toArray, List.set_cons_zero, List.set_cons_succ]
  refine qx_load (d := some 205) (at_of hops rfl rfl rfl rfl) (wnt hops rfl) Trym.single3 gz 89 rfl (v 89) (fun w' hw => (drew_cell hw).trans ((unhide HZ).cell 89 (by omega))) ?_
  simp only [Act.put, List.setIfInBounds_toArray, List.set_cons_zero, List.set_cons_succ]
  refine qx_move (d := some 206) (at_of hops rfl rfl rfl rfl) (wnt hops rfl) (.pointer (some ⟨gf, 0, none⟩)) rfl ?_
  simp only [Act.put, List.setIfInBounds_toArray, List.set_cons_zero, List.set_cons_succ]
  refine qx_nilc (d := some 207) (at_of hops rfl rfl rfl rfl) (wnt hops rfl) gf 0 rfl ?_
  simp only [Act.put, List.setIfInBounds_toArray, List.set_cons_zero, List.set_cons_succ]
  refine qx_field (d := some 208) (at_of hops rfl rfl rfl rfl) (wnt hops rfl) Trym.field34_18 gf 0 rfl 89 rfl ?_
  simp only [Act.put, List.setIfInBounds_toArray, List.set_cons_zero, List.set_cons_succ]
  refine qx_load (d := some 209) (at_of hops rfl rfl rfl rfl) (wnt hops rfl) Trym.single3 gf 89 rfl (v 89) (fun w' hw => (drew_cell hw).trans ((unhide HF).cell 89 (by omega))) ?_
  simp only [Act.put, List.setIfInBounds_toArray, List.set_cons_zero, List.set_cons_succ]
  refine qx_eql (d := some 210) (at_of hops rfl rfl rfl rfl) (wnt hops rfl) (v 89) rfl rfl (unhide HQ).s89 ?_
  simp only [Act.put, List.setIfInBounds_toArray, List.set_cons_zero, List.set_cons_succ]
  refine qx_pick (d := some 211) (at_of hops rfl rfl rfl rfl) trivial rfl (.bool true) rfl ?_
  simp only [Act.put, List.setIfInBounds_toArray, List.set_cons_zero, List.set_cons_succ]
  refine qx_assign (d := some 4) (at_of hops rfl rfl rfl rfl) trivial (.bool true) rfl ?_
  simp only [Act.put, List.setIfInBounds_toArray, List.set_cons_zero, List.set_cons_succ]
  refine qx_nil ?_
  intro w' hw'
  have HW := hide hw'
  clear hw' hops
  go_wp2
  go_ret
  exact ⟨rfl, unhide HW⟩
end Go.Proofs.Qxb6602878aMods
