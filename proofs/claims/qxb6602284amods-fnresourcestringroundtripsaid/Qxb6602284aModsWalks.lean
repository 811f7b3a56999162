/- The walks of seat b6602284aM: each function on the road of FnResourceStringRoundTrip. -/
import Derived.Test.Qxb6602284aModsProg
import Derived.WalkKit
namespace Go.Proofs.Qxb6602284aMods
open Go.RowKit

/-- Does the text hold the byte? -/
def hasB (s : ByteArray) (c : Int) : Bool := s.data.toList.any fun x => (x.toNat : Int) == c

theorem take_snoc (s : ByteArray) (k : Nat) (h : k < s.size) : s.data.toList.take (k + 1) = s.data.toList.take k ++ [s[k]] := by
  rw [List.take_succ_eq_append_getElem (by simpa using h)]; rfl

theorem hasB_hit (s : ByteArray) (c : Int) (k : Nat) (h : k < s.size) (hc : ((s[k].toNat : Int) == c) = true) : hasB s c = true := by
  unfold hasB
  rw [List.any_eq_true]
  exact ⟨s[k], by rw [ByteArray.getElem_eq_getElem_data]; simp, hc⟩

theorem ret_bool {a b : Bool} (h : a = b) : Ending.returned (.bool a) = .returned (.bool b) := by rw [h]

set_option maxHeartbeats 400000 in
theorem hasByte_any (s : ByteArray) (c : Int) (w : World) (hs : s.size ≤ maxLen) :
    Calls Trym.prog 14 #[.string s, .int .u8 c] w fun e w' => e = .returned (.bool (hasB s c)) ∧ w' = w := by
  unfold maxLen at hs
  go_enter Trym.func14, Trym.ntmps14
  go_wp2
  go_loop [5] (fun i => ∃ k : Nat, k ≤ s.size ∧ i = .int .i64 k ∧ (s.data.toList.take k).any (fun x => (x.toNat : Int) == c) = false) (fun i => s.size - (intOf i).toNat)
  case atStart => exact ⟨0, Nat.zero_le _, rfl, rfl⟩
  case round =>
    obtain ⟨k, hk, rfl, hn⟩ := hrel
    have HN : Hid ((s.data.toList.take k).any (fun x => (x.toNat : Int) == c) = false) := hn
    clear hn
    by_cases hlt : k < s.size
    · by_cases hc : ((s[k].toNat : Int) == c) = true
      · go_wp2
        go_ret
        exact ⟨ret_bool (hasB_hit s c k hlt hc).symm, rfl⟩
      · have hc' : ((s[k].toNat : Int) == c) = false := by simpa using hc
        go_wp2
        go_round
        case rel => exact ⟨k + 1, by omega, by go_num, by rw [take_snoc s k hlt, List.any_append, HN.out]; simpa using hc'⟩
        case measure => simp [intOf]; omega
    · go_wp2
      go_ret
      refine ⟨ret_bool ?_, rfl⟩
      have := HN.out
      rw [List.take_of_length_le (by simp; omega)] at this
      exact this.symm

set_option maxHeartbeats 400000 in
theorem bytes_any (a b c : ByteArray) (w : World) (ha : a.size ≤ maxLen) (hb : b.size ≤ maxLen) (hc : c.size ≤ maxLen) :
    Calls Trym.prog 13 #[.string a, .string b, .string c] w fun e w' => (∃ r, e = .returned (.bool r)) ∧ w' = w := by
  unfold maxLen at ha hb hc
  go_enter Trym.func13, Trym.ntmps13
  go_wp2
  all_goals (go_ret; exact ⟨⟨_, rfl⟩, rfl⟩)

/-- The text of a resource, as a list of bytes. -/
def resText (g n u : List UInt8) : List UInt8 := n ++ (if g = [] then [] else 46 :: g) ++ (if u = [] then [] else 47 :: u)

theorem res_all (g n u : ByteArray) (a b : Bool) (ha : (!g.toList.isEmpty) = a) (hb : (!u.toList.isEmpty) = b) :
    resText g.data.toList n.data.toList u.data.toList = n.data.toList ++ (if a then 46 :: g.data.toList else []) ++ (if b then 47 :: u.data.toList else []) := by
  rw [ByteArray.toList_eq] at ha hb
  subst ha; subst hb
  unfold resText
  cases g.data.toList <;> cases u.data.toList <;> simp

set_option maxHeartbeats 400000 in
theorem string_any (g n u : ByteArray) (w : World) (hg : g.size ≤ 262144) (hn : n.size ≤ 262144) (hu : u.size ≤ 262144) :
    Calls Trym.prog 15 #[.agg #[.string g, .string n, .string u]] w fun e w' => ∃ s : ByteArray, e = .returned (.string s) ∧ s.data.toList = resText g.data.toList n.data.toList u.data.toList ∧ Grown w w' := by
  have key := res_all g n u
  have KEY : Hid (∀ (a b : Bool) (_ha : (!g.toList.isEmpty) = a) (_hb : (!u.toList.isEmpty) = b), resText g.data.toList n.data.toList u.data.toList = n.data.toList ++ (if a then 46 :: g.data.toList else []) ++ (if b then 47 :: u.data.toList else [])) := key
  clear key
  go_enter Trym.func15, Trym.ntmps15
  go_wp2
  all_goals (go_ret; refine ⟨_, rfl, ?_, (Grown.refl _).alloc _ _⟩; rw [KEY.out _ _ ‹(!g.toList.isEmpty) = _› ‹(!u.toList.isEmpty) = _›]; simp)

/-- A byte of a text by its place. -/
theorem at_list (s : ByteArray) (k : Nat) (h : k < s.size) (L : List UInt8) (hL : s.data.toList = L) : L[k]? = some s[k] := by
  subst hL
  simp [ByteArray.getElem_eq_getElem_data]

theorem slice_mid (s : ByteArray) (i j : Nat) (w : World) (h1 : i + 1 ≤ j) (h2 : j ≤ s.size) :
    Sem.run Trym.prog (Instr.slice 9 (.string s) (some (.int .i64 ((i : Int) + 1))) (some (.int .i64 (j : Int))) none) w = .ok (.string (s.extract (i + 1) j)) w := by
  have e1 : ((i : Int) + 1).toNat = i + 1 := by omega
  have := run_slice_string (P := Trym.prog) w 9 s .i64 .i64 ((i : Int) + 1) (j : Int) Trym.underlying9 (by omega) (by omega) (by omega)
  rw [e1, Int.toNat_natCast] at this
  exact this

theorem ret3 {a b c a' b' c' : ByteArray} (h1 : a = a') (h2 : b = b') (h3 : c = c') :
    Ending.returned (.tuple #[.string a, .string b, .string c]) = .returned (.tuple #[.string a', .string b', .string c']) := by rw [h1, h2, h3]

set_option linter.unusedVariables false in
set_option maxHeartbeats 1000000 in
theorem parse_none (s : ByteArray) (w : World) (i0 j0 : Nat) (hs : s.size ≤ maxLen) (hi : i0 ≤ s.size) (hj : j0 ≤ s.size) (hno : ∀ k (h : k < s.size), k < i0 → ((s[k].toNat : Int) != 46) = true ∧ ((s[k].toNat : Int) != 47) = true)
    (hend : i0 = s.size) (hend2 : j0 = s.size) :
    Calls Trym.prog 16 #[.string s] w fun e w' => e = .returned (.tuple #[Value.string (s.extract 0 i0), .string ByteArray.empty, .string ByteArray.empty]) ∧ w' = w := by
  unfold maxLen at hs
  go_enter Trym.func16, Trym.ntmps16
  go_wp2
  go_loop [5] (fun i => ∃ k : Nat, k ≤ i0 ∧ i = .int .i64 k) (fun i => i0 - (intOf i).toNat)
  case atStart => exact ⟨0, Nat.zero_le _, rfl⟩
  case round =>
    obtain ⟨k, hk, rfl⟩ := hrel
    by_cases hlt : k < i0
    · obtain ⟨h1, h2⟩ := hno k (by omega) hlt
      have hls : k < s.size := by omega
      clear hno
      go_wp2
      go_round
      case rel => exact ⟨k + 1, by omega, by go_num⟩
      case measure => simp [intOf]; omega
    · obtain rfl : k = i0 := by omega
      clear hno
      clear hend2
      subst hend
      go_wp2
      go_ret3
      refine ⟨ret3 ?_ ?_ ?_, rfl⟩
      all_goals rfl
set_option linter.unusedVariables false in
set_option maxHeartbeats 1000000 in
theorem parse_sub (s : ByteArray) (w : World) (i0 j0 : Nat) (hs : s.size ≤ maxLen) (hi : i0 ≤ s.size) (hj : j0 ≤ s.size) (hno : ∀ k (h : k < s.size), k < i0 → ((s[k].toNat : Int) != 46) = true ∧ ((s[k].toNat : Int) != 47) = true)
    (hlt0 : i0 < s.size) (hc : (s[i0].toNat : Int) = 47) (_hj0 : j0 = i0) :
    Calls Trym.prog 16 #[.string s] w fun e w' => e = .returned (.tuple #[Value.string (s.extract 0 i0), .string ByteArray.empty, .string (s.extract (i0 + 1) s.size)]) ∧ w' = w := by
  unfold maxLen at hs
  go_enter Trym.func16, Trym.ntmps16
  go_wp2
  go_loop [5] (fun i => ∃ k : Nat, k ≤ i0 ∧ i = .int .i64 k) (fun i => i0 - (intOf i).toNat)
  case atStart => exact ⟨0, Nat.zero_le _, rfl⟩
  case round =>
    obtain ⟨k, hk, rfl⟩ := hrel
    by_cases hlt : k < i0
    · obtain ⟨h1, h2⟩ := hno k (by omega) hlt
      have hls : k < s.size := by omega
      clear hno
      go_wp2
      go_round
      case rel => exact ⟨k + 1, by omega, by go_num⟩
      case measure => simp [intOf]; omega
    · obtain rfl : k = i0 := by omega
      clear hno
      have b1 : ((s[k].toNat : Int) != 47) = false := by simp [hc]
      have b2 : ((s[k].toNat : Int) != 46) = true := by rw [hc]; decide
      have b3 : ((s[k].toNat : Int) == 46) = false := by rw [hc]; decide
      clear hc _hj0 hj
      go_wp2
      go_ret3
      refine ⟨ret3 ?_ ?_ ?_, rfl⟩
      all_goals rfl
set_option linter.unusedVariables false in
set_option maxHeartbeats 1000000 in
theorem parse_group (s : ByteArray) (w : World) (i0 j0 : Nat) (hs : s.size ≤ maxLen) (hi : i0 ≤ s.size) (hj : j0 ≤ s.size) (hno : ∀ k (h : k < s.size), k < i0 → ((s[k].toNat : Int) != 46) = true ∧ ((s[k].toNat : Int) != 47) = true)
    (hlt0 : i0 < s.size) (hc : (s[i0].toNat : Int) = 46) (hij : i0 < j0) (hend : j0 = s.size) (hnog : ∀ k (h : k < s.size), i0 < k → k < j0 → ((s[k].toNat : Int) != 47) = true) :
    Calls Trym.prog 16 #[.string s] w fun e w' => e = .returned (.tuple #[Value.string (s.extract 0 i0), .string (s.extract (i0 + 1) j0), .string ByteArray.empty]) ∧ w' = w := by
  unfold maxLen at hs
  go_enter Trym.func16, Trym.ntmps16
  go_wp2
  go_loop [5] (fun i => ∃ k : Nat, k ≤ i0 ∧ i = .int .i64 k) (fun i => i0 - (intOf i).toNat)
  case atStart => exact ⟨0, Nat.zero_le _, rfl⟩
  case round =>
    obtain ⟨k, hk, rfl⟩ := hrel
    by_cases hlt : k < i0
    · obtain ⟨h1, h2⟩ := hno k (by omega) hlt
      have hls : k < s.size := by omega
      clear hno
      go_wp2
      go_round
      case rel => exact ⟨k + 1, by omega, by go_num⟩
      case measure => simp [intOf]; omega
    · obtain rfl : k = i0 := by omega
      clear hno
      have b1 : ((s[k].toNat : Int) != 46) = false := by simp [hc]
      have b3 : ((s[k].toNat : Int) == 46) = true := by simp [hc]
      clear hc
      go_wp2
      go_loop [9] (fun i => ∃ m : Nat, k + 1 ≤ m ∧ m ≤ j0 ∧ i = .int .i64 m) (fun i => j0 - (intOf i).toNat)
      case atStart => exact ⟨k + 1, by omega, by omega, by go_num⟩
      case round =>
        obtain ⟨m, hm1, hm2, rfl⟩ := hrel
        by_cases hlt1 : m < j0
        · have d1 := hnog m (by omega) (by omega) hlt1
          have hls : m < s.size := by omega
          clear hnog
          go_wp2
          go_round
          case rel => exact ⟨m + 1, by omega, by omega, by go_num⟩
          case measure => simp [intOf]; omega
        · obtain rfl : m = j0 := by omega
          clear hnog
          subst hend
          have hsl := fun wx => slice_mid s k s.size wx (by omega) (by omega)
          go_wp2
          go_ret3
          refine ⟨ret3 ?_ ?_ ?_, rfl⟩
          all_goals rfl
set_option linter.unusedVariables false in
set_option maxHeartbeats 1000000 in
theorem parse_both (s : ByteArray) (w : World) (i0 j0 : Nat) (hs : s.size ≤ maxLen) (hi : i0 ≤ s.size) (hj : j0 ≤ s.size) (hno : ∀ k (h : k < s.size), k < i0 → ((s[k].toNat : Int) != 46) = true ∧ ((s[k].toNat : Int) != 47) = true)
    (hlt0 : i0 < s.size) (hc : (s[i0].toNat : Int) = 46) (hij : i0 < j0) (hend : j0 < s.size) (hd : (s[j0].toNat : Int) = 47) (hnog : ∀ k (h : k < s.size), i0 < k → k < j0 → ((s[k].toNat : Int) != 47) = true) :
    Calls Trym.prog 16 #[.string s] w fun e w' => e = .returned (.tuple #[Value.string (s.extract 0 i0), .string (s.extract (i0 + 1) j0), .string (s.extract (j0 + 1) s.size)]) ∧ w' = w := by
  unfold maxLen at hs
  go_enter Trym.func16, Trym.ntmps16
  go_wp2
  go_loop [5] (fun i => ∃ k : Nat, k ≤ i0 ∧ i = .int .i64 k) (fun i => i0 - (intOf i).toNat)
  case atStart => exact ⟨0, Nat.zero_le _, rfl⟩
  case round =>
    obtain ⟨k, hk, rfl⟩ := hrel
    by_cases hlt : k < i0
    · obtain ⟨h1, h2⟩ := hno k (by omega) hlt
      have hls : k < s.size := by omega
      clear hno
      go_wp2
      go_round
      case rel => exact ⟨k + 1, by omega, by go_num⟩
      case measure => simp [intOf]; omega
    · obtain rfl : k = i0 := by omega
      clear hno
      have b1 : ((s[k].toNat : Int) != 46) = false := by simp [hc]
      have b3 : ((s[k].toNat : Int) == 46) = true := by simp [hc]
      clear hc
      go_wp2
      go_loop [9] (fun i => ∃ m : Nat, k + 1 ≤ m ∧ m ≤ j0 ∧ i = .int .i64 m) (fun i => j0 - (intOf i).toNat)
      case atStart => exact ⟨k + 1, by omega, by omega, by go_num⟩
      case round =>
        obtain ⟨m, hm1, hm2, rfl⟩ := hrel
        by_cases hlt1 : m < j0
        · have d1 := hnog m (by omega) (by omega) hlt1
          have hls : m < s.size := by omega
          clear hnog
          go_wp2
          go_round
          case rel => exact ⟨m + 1, by omega, by omega, by go_num⟩
          case measure => simp [intOf]; omega
        · obtain rfl : m = j0 := by omega
          clear hnog
          have e1 : ((s[m].toNat : Int) != 47) = false := by simp [hd]
          clear hd
          have hsl := fun wx => slice_mid s k m wx (by omega) (by omega)
          go_wp2
          go_ret3
          refine ⟨ret3 ?_ ?_ ?_, rfl⟩
          all_goals rfl

/-! ### THE PLAIN LAW: the text reads back -/
theorem ext_mid (s n : ByteArray) (A C : List UInt8) (a b : Nat) (h : s.data.toList = A ++ (n.data.toList ++ C)) (ha : a = A.length) (hb : b = A.length + n.data.toList.length) : s.extract a b = n := by
  subst ha; subst hb
  apply ByteArray.ext
  apply Array.ext'
  rw [ByteArray.data_extract, Array.toList_extract, List.extract_eq_take_drop, h, List.drop_left, Nat.add_sub_cancel_left, List.take_left]

theorem at_mid (s : ByteArray) (A C : List UInt8) (c : UInt8) (k : Nat) (h : s.data.toList = A ++ c :: C) (hk : k = A.length) (hlt : k < s.size) : s[k] = c := by
  subst hk
  have e := at_list s _ hlt _ h
  simpa using e.symm

theorem mem_mid (s : ByteArray) (A B C : List UInt8) (k : Nat) (h : s.data.toList = A ++ (B ++ C)) (h1 : A.length ≤ k) (h2 : k < A.length + B.length) (hlt : k < s.size) : s[k] ∈ B := by
  have e := at_list s _ hlt _ h
  rw [List.getElem?_append_right h1, List.getElem?_append_left (by omega)] at e
  exact List.mem_of_getElem? e

theorem hasB_no (n : ByteArray) (c : Int) (h : hasB n c = false) : ∀ x ∈ n.data.toList, (x.toNat : Int) ≠ c := by
  unfold hasB at h
  rw [List.any_eq_false] at h
  intro x hx
  simpa using h x hx

theorem neB (x : UInt8) (c : Int) (h : (x.toNat : Int) ≠ c) : ((x.toNat : Int) != c) = true := by simpa using h

theorem empty_of (u : ByteArray) (h : u.data.toList = []) : u = ByteArray.empty := by apply ByteArray.ext; apply Array.ext'; rw [h]; rfl

theorem parse_all (s g n u : ByteArray) (w : World) (hs : s.data.toList = resText g.data.toList n.data.toList u.data.toList) (hm : s.size ≤ maxLen)
    (h1 : hasB n 46 = false) (h2 : hasB n 47 = false) (h3 : hasB g 47 = false) :
    Calls Trym.prog 16 #[.string s] w fun e w' => e = .returned (.tuple #[.string n, .string g, .string u]) ∧ w' = w := by
  have k1 := hasB_no n 46 h1
  have k2 := hasB_no n 47 h2
  have k3 := hasB_no g 47 h3
  have hsz : s.size = s.data.toList.length := by simp
  obtain ⟨C, hC⟩ : ∃ C, s.data.toList = [] ++ (n.data.toList ++ C) := ⟨_, by rw [hs, resText, List.append_assoc]; rfl⟩
  have hnn : n.data.toList.length ≤ s.size := by rw [hsz, hC]; simp only [List.nil_append, List.length_append]; omega
  have hname : s.extract 0 n.data.toList.length = n := ext_mid s n [] C _ _ hC rfl (by simp)
  have hno : ∀ k (h : k < s.size), k < n.data.toList.length → ((s[k].toNat : Int) != 46) = true ∧ ((s[k].toNat : Int) != 47) = true := by
    intro k h hk
    have hmem := mem_mid s [] n.data.toList C k hC (Nat.zero_le _) (by simpa using hk) h
    exact ⟨neB _ _ (k1 _ hmem), neB _ _ (k2 _ hmem)⟩
  clear hC
  generalize hN : n.data.toList = N at *
  generalize hG : g.data.toList = G at *
  generalize hU : u.data.toList = U at *
  by_cases hg : G = []
  · have eg : g = ByteArray.empty := empty_of g (hG.trans hg)
    by_cases hu : U = []
    · have eu : u = ByteArray.empty := empty_of u (hU.trans hu)
      have hl : N.length = s.size := by rw [hsz, hs]; simp [resText, hg, hu]
      refine (parse_none s w _ s.size hm hnn (Nat.le_refl _) hno hl rfl).mono fun e w' ⟨he, hw⟩ => ⟨?_, hw⟩
      rw [he, hname, eg, eu]
    · have hL : s.data.toList = N ++ (47 :: U) := by rw [hs]; simp [resText, hg, hu]
      have hlt : N.length < s.size := by rw [hsz, hL]; simp
      have hc : (s[N.length].toNat : Int) = 47 := by rw [at_mid s N U 47 _ hL rfl hlt]; rfl
      have hsub : s.extract (N.length + 1) s.size = u := ext_mid s u (N ++ [47]) [] _ _ (by rw [hL, hU]; simp) (by simp) (by rw [hsz, hL, hU]; simp; omega)
      refine (parse_sub s w _ _ hm hnn hnn hno hlt hc rfl).mono fun e w' ⟨he, hw⟩ => ⟨?_, hw⟩
      rw [he, hname, hsub, eg]
  · by_cases hu : U = []
    · have eu : u = ByteArray.empty := empty_of u (hU.trans hu)
      have hL : s.data.toList = N ++ (46 :: G) := by rw [hs]; simp [resText, hg, hu]
      have hlt : N.length < s.size := by rw [hsz, hL]; simp
      have hc : (s[N.length].toNat : Int) = 46 := by rw [at_mid s N G 46 _ hL rfl hlt]; rfl
      have hgr : s.extract (N.length + 1) s.size = g := ext_mid s g (N ++ [46]) [] _ _ (by rw [hL, hG]; simp) (by simp) (by rw [hsz, hL, hG]; simp; omega)
      have hnog : ∀ k (h : k < s.size), N.length < k → k < s.size → ((s[k].toNat : Int) != 47) = true := by
        intro k h hk _
        have hl : s.size = N.length + (G.length + 1) := by rw [hsz, hL]; simp
        exact neB _ _ (k3 _ (mem_mid s (N ++ [46]) G [] k (by rw [hL]; simp) (by simp; omega) (by simp; omega) h))
      refine (parse_group s w _ _ hm hnn (Nat.le_refl _) hno hlt hc hlt rfl hnog).mono fun e w' ⟨he, hw⟩ => ⟨?_, hw⟩
      rw [he, hname, hgr, eu]
    · have hL : s.data.toList = N ++ (46 :: G) ++ (47 :: U) := by rw [hs]; simp [resText, hg, hu]
      have hlt : N.length < s.size := by rw [hsz, hL]; simp
      have hc : (s[N.length].toNat : Int) = 46 := by rw [at_mid s N (G ++ 47 :: U) 46 _ (by rw [hL]; simp) rfl hlt]; rfl
      have hj : N.length + 1 + G.length < s.size := by rw [hsz, hL]; simp; omega
      have hd : (s[N.length + 1 + G.length].toNat : Int) = 47 := by rw [at_mid s (N ++ 46 :: G) U 47 _ hL (by simp; omega) hj]; rfl
      have hgr : s.extract (N.length + 1) (N.length + 1 + G.length) = g := ext_mid s g (N ++ [46]) (47 :: U) _ _ (by rw [hL, hG]; simp) (by simp) (by rw [hG]; simp)
      have hsub : s.extract (N.length + 1 + G.length + 1) s.size = u := ext_mid s u (N ++ 46 :: G ++ [47]) [] _ _ (by rw [hL, hU]; simp) (by simp; omega) (by rw [hsz, hL, hU]; simp; omega)
      have hnog : ∀ k (h : k < s.size), N.length < k → k < N.length + 1 + G.length → ((s[k].toNat : Int) != 47) = true := by
        intro k h hk hk2
        exact neB _ _ (k3 _ (mem_mid s (N ++ [46]) G (47 :: U) k (by rw [hL]; simp) (by simp; omega) (by simp; omega) h))
      refine (parse_both s w _ _ hm hnn (by omega) hno hlt hc (by omega) hj hd hnog).mono fun e w' ⟨he, hw⟩ => ⟨?_, hw⟩
      rw [he, hname, hgr, hsub]
end Go.Proofs.Qxb6602284aMods
