/- The proof of 'Rows.FnResourceStringRoundTripSaid': the frame is the seat's own shell; the walk out of the contracts in Qxb6602284aModsWalks. -/
import Derived.Test.Qxb6602284aModsRows
import Derived.WalkKit
import Derived.ProofKit
import Derived.OpenShut
import Derived.ShutString
import Derived.Test.Qxb6602284aModsWalks
namespace Go.Proofs.Qxb6602284aMods.fnResourceStringRoundTrip
open Go.ChangeShapes Go.WideShapes Go.ChangeAt Go.RowKit
open Go.ChangeMaps (open_string shut_string)
set_option linter.unusedVariables false      -- a walk need not use every 'w<i>' (that an integer argument fits its kind)

theorem own : ownKnob Trym.prog.godebug = none := by kernel_rfl

theorem text_size (s g n u : ByteArray) (hs : s.data.toList = resText g.data.toList n.data.toList u.data.toList) (hg : g.size ≤ 262144) (hn : n.size ≤ 262144) (hu : u.size ≤ 262144) : s.size ≤ maxLen := by
  have h : s.size = s.data.toList.length := by simp
  have h1 : (if g.data.toList = [] then [] else 46 :: g.data.toList).length ≤ g.size + 1 := by split <;> simp
  have h2 : (if u.data.toList = [] then [] else 47 :: u.data.toList).length ≤ u.size + 1 := by split <;> simp
  have h3 : n.data.toList.length = n.size := by simp
  rw [h, hs, resText, List.length_append, List.length_append, h3]
  unfold maxLen
  omega

/-! ### STEP 1: THE WALK -/
set_option maxHeartbeats 1000000 in
theorem walk (a0 : ByteArray) (a1 : ByteArray) (a2 : ByteArray) (w0 : a0.size ≤ maxLen) (w1 : a1.size ≤ maxLen) (w2 : a2.size ≤ maxLen) (w : World) :
    Calls Trym.prog 6 #[.string a0, .string a1, .string a2] w fun e w' => e = .returned (.bool true) ∧ Grown w w' := by
  have v0 := w0; have v1 := w1; have v2 := w2
  unfold maxLen at v0 v1 v2
  by_cases s0 : a0.size ≤ 262144
  · by_cases s1 : a1.size ≤ 262144
    · by_cases s2 : a2.size ≤ 262144
      · cases h1 : hasB a1 46 <;> cases h2 : hasB a1 47 <;> cases h3 : hasB a0 47
        all_goals
          go_enter Trym.func6, Trym.ntmps6
          go_wp2_with (first
            | (go_at_call 13; refine (bytes_any a0 a1 a2 _ w0 w1 w2).mono ?_; rintro e w' ⟨⟨r, rfl⟩, rfl⟩)
            | (go_at_call 14; refine (hasByte_any _ _ _ (by first | exact w0 | exact w1)).mono ?_; rintro e w' ⟨rfl, rfl⟩)
            | (go_at_call 15; refine (string_any a0 a1 a2 _ s0 s1 s2).mono ?_; rintro e w' ⟨s, rfl, hs, hg⟩; have hsz := text_size s a0 a1 a2 hs s0 s1 s2; have HS : Hid (s.data.toList = resText a0.data.toList a1.data.toList a2.data.toList) := hs; clear hs)
            | (go_at_call 16; refine (parse_all _ a0 a1 a2 _ HS.out hsz h1 h2 h3).mono ?_; rintro e w' ⟨rfl, rfl⟩))
        all_goals (go_ret; first | exact ⟨rfl, Grown.refl _⟩ | exact ⟨rfl, hg⟩)
      · go_enter Trym.func6, Trym.ntmps6
        go_wp2_with (go_at_call 13; refine (bytes_any a0 a1 a2 _ w0 w1 w2).mono ?_; rintro e w' ⟨⟨r, rfl⟩, rfl⟩)
        all_goals (go_ret; exact ⟨rfl, Grown.refl _⟩)
    · go_enter Trym.func6, Trym.ntmps6
      go_wp2_with (go_at_call 13; refine (bytes_any a0 a1 a2 _ w0 w1 w2).mono ?_; rintro e w' ⟨⟨r, rfl⟩, rfl⟩)
      all_goals (go_ret; exact ⟨rfl, Grown.refl _⟩)
  · go_enter Trym.func6, Trym.ntmps6
    go_wp2_with (go_at_call 13; refine (bytes_any a0 a1 a2 _ w0 w1 w2).mono ?_; rintro e w' ⟨⟨r, rfl⟩, rfl⟩)
    all_goals (go_ret; exact ⟨rfl, Grown.refl _⟩)

/-! ### THE ROW's STEP: WRITTEN OUT: LEAVE IT -/
set_option maxRecDepth 100000 in
theorem lifted (os : Os) (started : os.Started) (H : Type) (enc : TypeId × Value → H) :
    ReturnsInHanded {} Trym.checked os 6 .any (Rows.fnResourceStringRoundTripSpec.pre6 enc Trym.prog Trym.f6 Rows.fnResourceStringRoundTripRow.domain false) (Rows.fnResourceStringRoundTripSpec.post enc Trym.prog Trym.f6 false true false false) := by
  refine returnsInHanded_of_change (C := Trym.checked) own started (by kernel_rfl) Trym.func6
    (ChangeSpec.witness6 (enc := enc) (C := Trym.checked) false ⟨#[], #[.string ByteArray.empty, .string ByteArray.empty, .string ByteArray.empty], []⟩ 8 (by kernel_rfl) (by kernel_rfl) (by kernel_rfl) (by kernel_rfl)) ?_
  intro W base args ds gs before hval0 hW hcnd _
  have hval : ∀ (j : Nat) t v, Trym.f6.params[j]? = some t → args[j]? = some v → Value.okWide Trym.prog W .any base t v := hval0
  have hW' := hW
  obtain ⟨p, q, hA0, hV, rfl, hfz, hnd⟩ := hW
  have hA : DataW.TrodAll enc Trym.prog W 0 (fun _ => true) true Trym.f6.params.toList args.toList ds p := hA0
  rw [Trym.params6] at hA hval
  obtain ⟨v0, vs0, d0, ds0, p0, q0, hargs, rfl, rfl, h0, r0⟩ := trodAll_cons hA
  obtain ⟨v1, vs1, d1, ds1, p1, q1, rfl, rfl, rfl, h1, r1⟩ := trodAll_cons r0
  obtain ⟨v2, vs2, d2, ds2, p2, q2, rfl, rfl, rfl, h2, r2⟩ := trodAll_cons r1
  obtain ⟨rfl, rfl, rfl⟩ := trodAll_nil r2
  obtain rfl : args = #[v0, v1, v2] := by cases args; simp_all
  obtain ⟨rfl, rfl⟩ := trodVars_none hV
  obtain ⟨a0, rfl, rfl, rfl, w0⟩ := open_string Trym.underlying9 (hval 0 9 v0 rfl rfl) h0
  obtain ⟨a1, rfl, rfl, rfl, w1⟩ := open_string Trym.underlying9 (hval 1 9 v1 rfl rfl) h1
  obtain ⟨a2, rfl, rfl, rfl, w2⟩ := open_string Trym.underlying9 (hval 2 9 v2 rfl rfl) h2
  clear hA0 hval0
  simp only [List.append_nil] at hW'
  refine (walk a0 a1 a2 w0 w1 w2 W).mono fun e W' ⟨he, hg⟩ => ?_
  subst he
  exact ⟨_, rfl, post_of_same (pa := []) (pv := []) hW' (fun _ _ _ => (trodAll_cons_mk (shut_bool Trym.underlying4 _) trodAll_mk0)) (fun sp _ => (trodAll_cons_mk (shut_string Trym.underlying9 w0) (trodAll_cons_mk (shut_string Trym.underlying9 w1) (trodAll_cons_mk (shut_string Trym.underlying9 w2) trodAll_mk0)))) (fun _ _ => rfl) rfl
    (hg.frame _) hg.2.1 (ok_one (by kernel_rfl) rfl (okWide_bool_mk Trym.underlying4 _))⟩

theorem over : Rows.fnResourceStringRoundTripRow.holds Trym.pinned (OpenSpec.ofChange Rows.fnResourceStringRoundTripSpec) :=
  OpenClaim.holds_of_wide 6 Trym.f6 rfl rfl rfl rfl rfl rfl rfl ⟨rfl, rfl, rfl, rfl, rfl⟩ rfl rfl rfl rfl rfl (by kernel_rfl) Trym.func6 (by kernel_rfl)
    (of_decide_eq_true (by kernel_rfl)) (by unfold Func.isWrapper; first | (rw [if_pos (by decide +kernel)]; kernel_rfl) | (rw [if_neg (by decide +kernel)]; exact ⟨rfl, rfl⟩))
    (fun os started H enc _ => lifted os started H enc)

/-- ████ THE STATEMENT ████ -/
theorem proved : Rows.FnResourceStringRoundTripSaid :=
  over
#print axioms proved
end Go.Proofs.Qxb6602284aMods.fnResourceStringRoundTrip
