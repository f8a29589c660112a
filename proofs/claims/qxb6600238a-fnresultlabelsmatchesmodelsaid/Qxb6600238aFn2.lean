import Derived.Test.Qxb6600238aRl
set_option linter.unusedVariables false
set_option linter.unusedSimpArgs false
set_option linter.unusedSectionVars false
namespace Go.Proofs.Qxb6600238a
open Go.Shelf Go.RowKit Go.Lib Go.Sort

theorem containsS_false (l : List ByteArray) (x : ByteArray) (h : ∀ j, j < l.length → l.getD j ByteArray.empty ≠ x) : Lib.containsS l x = false := by
  cases hc : Lib.containsS l x with
  | false => rfl
  | true =>
    have := (Lib.containsS_iff l x).1 hc
    obtain ⟨i, hi, e⟩ := List.mem_iff_getElem.1 this
    exact absurd (by simp [List.getD, hi, e]) (h i hi)
theorem containsS_at (l : List ByteArray) (x : ByteArray) (j : Nat) (hj : j < l.length) (h : l.getD j ByteArray.empty = x) : Lib.containsS l x = true := by
  rw [Lib.containsS_iff, ← h]
  simp only [List.getD, List.getElem?_eq_getElem hj, Option.getD_some]
  exact List.getElem_mem hj

set_option maxHeartbeats 1000000 in
theorem has_any (p : Option Addr) (n c : Nat) (l : List ByteArray) (x : ByteArray) (w : World) (h : StrS w p n l) (hn : n ≤ 4096) :
    Calls Try.prog 29 #[.slice p n c, .string x] w fun e w' => e = .returned (.bool (Lib.containsS l x)) ∧ w = w' := by
  have HL : Hid (l.length = n) := h.1
  have HC : Aside _ := h.2
  clear h
  go_enter Try.func29, Try.ntmps29
  go_wp2_with fail
  go_loop [5] (fun i => ∃ (k : Nat), k ≤ n ∧ i = .int .i64 k ∧ Hid (∀ j, j < k → l.getD j ByteArray.empty ≠ x)) (fun i => n - (intOf i).toNat)
  case atStart => exact ⟨0, Nat.zero_le _, rfl, fun j hj => by omega⟩
  case round =>
    obtain ⟨k, hk, rfl, HR⟩ := hrel
    by_cases hlt : k < n
    · have hlti : (k : Int) < (n : Int) := by omega
      obtain ⟨b, off, rfl, hb, hc⟩ := HC.out k hlt
      have cx := hc k hlt
      obtain ⟨y, hy⟩ : ∃ y, y = l.getD k ByteArray.empty := ⟨_, rfl⟩
      rw [← hy] at cx
      have HY : Hid (y = l.getD k ByteArray.empty) := hy
      clear hy hc
      by_cases hyx : y = x
      · have HV : Hid (Lib.containsS l x = true) := containsS_at l x k (by rw [HL.out]; exact hlt) (by rw [← HY.out]; exact hyx)
        have hq : (y.toList == x.toList) = true := by rw [hyx]; simp
        clear hyx HY
        go_wp2_with fail
        go_ret
        exact ⟨by rw [HV.out]; rfl, rfl⟩
      · have HR2 : Hid (∀ j, j < k + 1 → l.getD j ByteArray.empty ≠ x) := by
          intro j hj
          rcases Nat.lt_or_ge j k with h1 | h1
          · exact HR.out j h1
          · have : j = k := by omega
            subst this; rw [← HY.out]; exact hyx
        have hq : (y.toList == x.toList) = false := by rw [beq_eq_false_iff_ne]; exact fun h => hyx (baInj h)
        clear hyx HY HR
        go_wp2_with fail
        go_round
        case rel => exact ⟨k + 1, by omega, by go_num, HR2⟩
        case measure => simp [intOf]; omega
    · have hlti : ¬ (k : Int) < (n : Int) := by omega
      have HV : Hid (Lib.containsS l x = false) := containsS_false l x (fun j hj => HR.out j (by rw [HL.out] at hj; omega))
      go_wp2_with fail
      go_ret
      exact ⟨by rw [HV.out]; rfl, rfl⟩

/-- Names and values side by side. -/
def zipL (ns vs : List ByteArray) : List Lbl := ns.zip vs
theorem zipL_len (ns vs : List ByteArray) (n : Nat) (h1 : ns.length = n) (h2 : vs.length = n) : (zipL ns vs).length = n := by
  unfold zipL; rw [List.length_zip]; omega
theorem zipL_getD (ns vs : List ByteArray) (n : Nat) (h1 : ns.length = n) (h2 : vs.length = n) (j : Nat) (hj : j < n) : (zipL ns vs).getD j lblD = (ns.getD j ByteArray.empty, vs.getD j ByteArray.empty) := by
  rw [getD_eq _ _ (by rw [zipL_len ns vs n h1 h2]; exact hj)]
  unfold zipL
  rw [List.getElem_zip]
  simp [List.getD, show j < ns.length by omega, show j < vs.length by omega]
theorem getL_first (l : List Lbl) (t : ByteArray) (k : Nat) (hk : k < l.length) (h1 : ∀ j, j < k → (l.getD j lblD).1 ≠ t) (h2 : (l.getD k lblD).1 = t) : getL l t = (l.getD k lblD).2 := by
  rw [getD_eq l k hk] at h2 ⊢
  unfold getL
  have hf : l.find? (fun x => decide (x.1 = t)) = some l[k] := by
    rw [List.find?_eq_some_iff_getElem]
    refine ⟨by simpa using h2, k, hk, rfl, ?_⟩
    intro j hj
    have := h1 j hj
    rw [getD_eq l j (by omega)] at this
    simpa using this
  rw [hf]
theorem getL_all (l : List Lbl) (t : ByteArray) (h : ∀ j, j < l.length → (l.getD j lblD).1 ≠ t) : getL l t = ByteArray.empty :=
  getL_none l t (fun i hi => by have := h i hi; rwa [getD_eq l i hi] at this)
theorem getL_hit (l : List Lbl) (t : ByteArray) (h : getL l t ≠ ByteArray.empty) : ∃ k, k < l.length ∧ (l.getD k lblD).1 = t ∧ (l.getD k lblD).2 = getL l t ∧ ∀ j, j < k → (l.getD j lblD).1 ≠ t := by
  unfold getL at h ⊢
  cases hf : l.find? (fun x => decide (x.1 = t)) with
  | none => rw [hf] at h; exact absurd rfl h
  | some x =>
    obtain ⟨h1, k, hk, rfl, h2⟩ := List.find?_eq_some_iff_getElem.1 hf
    refine ⟨k, hk, by rw [getD_eq l k hk]; simpa using h1, by rw [getD_eq l k hk], ?_⟩
    intro j hj
    have := h2 j hj
    rw [getD_eq l j (by omega)]
    simpa using this

set_option maxHeartbeats 1000000 in
theorem valueOf_any (p1 p2 : Option Addr) (n c1 c2 : Nat) (ns vs : List ByteArray) (x : ByteArray) (w : World) (h : StrS w p1 n ns) (h' : StrS w p2 n vs) (hn : n ≤ 4096) :
    Calls Try.prog 34 #[.slice p1 n c1, .slice p2 n c2, .string x] w fun e w' => e = .returned (.string (getL (zipL ns vs) x)) ∧ w = w' := by
  have HL : Hid (ns.length = n ∧ vs.length = n) := ⟨h.1, h'.1⟩
  have HC : Aside _ := h.2
  have HC2 : Aside _ := h'.2
  clear h h'
  go_enter Try.func34, Try.ntmps34
  go_wp2_with fail
  go_loop [7] (fun i => ∃ (k : Nat), k ≤ n ∧ i = .int .i64 k ∧ Hid (∀ j, j < k → ((zipL ns vs).getD j lblD).1 ≠ x)) (fun i => n - (intOf i).toNat)
  case atStart => exact ⟨0, Nat.zero_le _, rfl, fun j hj => by omega⟩
  case round =>
    obtain ⟨k, hk, rfl, HR⟩ := hrel
    by_cases hlt : k < n
    · have hlti : (k : Int) < (n : Int) := by omega
      obtain ⟨b, off, rfl, hb, hc⟩ := HC.out k hlt
      obtain ⟨b2, off2, rfl, hb2, hc2⟩ := HC2.out k hlt
      have cx := hc k hlt
      have cx2 := hc2 k hlt
      obtain ⟨y, hy⟩ : ∃ y, y = ns.getD k ByteArray.empty := ⟨_, rfl⟩
      obtain ⟨z, hz⟩ : ∃ z, z = vs.getD k ByteArray.empty := ⟨_, rfl⟩
      rw [← hy] at cx
      rw [← hz] at cx2
      have HY : Hid ((zipL ns vs).getD k lblD = (y, z)) := by rw [Hid, zipL_getD ns vs n HL.out.1 HL.out.2 k hlt, hy, hz]
      clear hy hz hc hc2
      by_cases hyx : y = x
      · have HV : Hid (getL (zipL ns vs) x = z) := by
          rw [Hid, getL_first (zipL ns vs) x k (by rw [zipL_len ns vs n HL.out.1 HL.out.2]; exact hlt) HR.out (by rw [HY.out]; exact hyx), HY.out]
        have hq : (y.toList == x.toList) = true := by rw [hyx]; simp
        clear hyx HY HR
        go_wp2_with fail
        go_ret
        exact ⟨by rw [HV.out]; rfl, rfl⟩
      · have HR2 : Hid (∀ j, j < k + 1 → ((zipL ns vs).getD j lblD).1 ≠ x) := by
          intro j hj
          rcases Nat.lt_or_ge j k with h1 | h1
          · exact HR.out j h1
          · have : j = k := by omega
            subst this; rw [HY.out]; exact hyx
        have hq : (y.toList == x.toList) = false := by rw [beq_eq_false_iff_ne]; exact fun h => hyx (baInj h)
        clear hyx HY HR
        go_wp2_with fail
        go_round
        case rel => exact ⟨k + 1, by omega, by go_num, HR2⟩
        case measure => simp [intOf]; omega
    · have hlti : ¬ (k : Int) < (n : Int) := by omega
      have HV : Hid (getL (zipL ns vs) x = ByteArray.empty) := getL_all _ x (fun j hj => HR.out j (by rw [zipL_len ns vs n HL.out.1 HL.out.2] at hj; omega))
      go_wp2_with fail
      go_ret
      exact ⟨by rw [HV.out]; rfl, rfl⟩

set_option maxHeartbeats 1000000 in
theorem bytes_any (p : Option Addr) (n c : Nat) (l : List ByteArray) (w : World) (h : StrS w p n l) (hn : n ≤ maxLen) :
    Calls Try.prog 32 #[.slice p n c] w fun e w' => (∃ m : Nat, e = .returned (.int .i64 m) ∧ m ≤ 2097152) ∧ w = w' := by
  unfold maxLen at hn
  have HC : Aside _ := h.2
  clear h
  by_cases h1 : n ≤ 4096
  · have h1i : ¬ (4096 : Int) < (n : Int) := by omega
    go_enter Try.func32, Try.ntmps32
    go_wp2_with fail
    go_loop [3, 4] (fun t i => ∃ (k m : Nat), k ≤ n ∧ i = .int .i64 k ∧ t = .int .i64 m ∧ m ≤ 1048576) (fun _ i => n - (intOf i).toNat)
    case atStart => exact ⟨0, 16 * n, Nat.zero_le _, rfl, by go_num, by omega⟩
    case round =>
      obtain ⟨k, m, hk, rfl, rfl, hm⟩ := hrel
      by_cases hlt : k < n
      · have hlti : (k : Int) < (n : Int) := by omega
        obtain ⟨b, off, rfl, hb, hc⟩ := HC.out k hlt
        have cx := hc k hlt
        clear hc
        generalize l.getD k ByteArray.empty = y at cx
        by_cases h2 : y.size ≤ 1048576
        · have h2i : ¬ (1048576 : Int) < (y.size : Int) := by omega
          by_cases h3 : m + y.size ≤ 1048576
          · have h3i : ¬ (1048576 : Int) < (m : Int) + (y.size : Int) := by omega
            go_wp2_with fail
            go_round
            case rel => exact ⟨k + 1, m + y.size, by omega, by go_num, by go_num, h3⟩
            case measure => simp [intOf]; omega
          · have h3i : (1048576 : Int) < (m : Int) + (y.size : Int) := by omega
            go_wp2_with fail
            go_ret
            exact ⟨⟨2097152, rfl, Nat.le_refl _⟩, rfl⟩
        · have h2i : (1048576 : Int) < (y.size : Int) := by omega
          go_wp2_with fail
          go_ret
          exact ⟨⟨2097152, rfl, Nat.le_refl _⟩, rfl⟩
      · have hlti : ¬ (k : Int) < (n : Int) := by omega
        go_wp2_with fail
        go_ret
        exact ⟨⟨m, rfl, by omega⟩, rfl⟩
  · have h1i : (4096 : Int) < (n : Int) := by omega
    go_enter Try.func32, Try.ntmps32
    go_wp2_with fail
    go_ret
    exact ⟨⟨2097152, rfl, Nat.le_refl _⟩, rfl⟩

set_option maxHeartbeats 1000000 in
theorem covered_any (B g n cap : Nat) (got : List Lbl) (x want : ByteArray) (w : World) (h : OwnL B w g n cap got) (hn : n ≤ 8192) (hw : want = ByteArray.empty ∨ getL got x = want) :
    Calls Try.prog 23 #[.slice (some ⟨g, 0, none⟩) n cap, .string x, .string want] w fun e w' => e = .returned (.bool true) ∧ w = w' := by
  have HL : Hid (got.length = n) := h.len
  have HO : Hid (OwnL B w g n cap got) := h
  clear h
  by_cases he : want = ByteArray.empty
  · have hq : (want.toList == []) = true := by rw [he, baNil]; rfl
    clear he hw
    go_enter Try.func23, Try.ntmps23
    go_wp2_with fail
    go_ret
    exact ⟨rfl, rfl⟩
  · have hq : (want.toList == []) = false := by rw [beq_eq_false_iff_ne]; exact fun h => he (baInj (h.trans baNil.symm))
    have hg : getL got x = want := by rcases hw with h | h; exact absurd h he; exact h
    obtain ⟨m, hm1, hm2, hm3, hm4⟩ := getL_hit got x (by rw [hg]; exact he)
    have HM : Hid ((got.getD m lblD).1 = x ∧ (got.getD m lblD).2 = want ∧ ∀ j, j < m → (got.getD j lblD).1 ≠ x) := ⟨hm2, by rw [hm3]; exact hg, hm4⟩
    have hmn : m < n := by have := HL.out; omega
    clear he hw hg hm1 hm2 hm3 hm4
    go_enter Try.func23, Try.ntmps23
    go_wp2_with fail
    go_loop [7] (fun i => ∃ (k : Nat), k ≤ m ∧ i = .int .i64 k) (fun i => n - (intOf i).toNat)
    case atStart => exact ⟨0, Nat.zero_le _, rfl⟩
    case round =>
      obtain ⟨k, hk, rfl⟩ := hrel
      have hlti : (k : Int) < (n : Int) := by omega
      obtain ⟨cx1, cx2⟩ := HO.out.cell k (by rw [HL.out]; omega)
      rw [← getD_eq got k (by rw [HL.out]; omega)] at cx1 cx2
      by_cases hkm : k = m
      · have hy1 : ((got.getD k lblD).1.toList == x.toList) = true := by rw [hkm, HM.out.1]; simp
        have hy2 : ((got.getD k lblD).2.toList == want.toList) = true := by rw [hkm, HM.out.2.1]; simp
        generalize got.getD k lblD = y at cx1 cx2 hy1 hy2
        obtain ⟨y1, y2⟩ := y
        have hkn : k < n := by omega
        clear hkm
        go_wp2_with fail
        go_ret
        exact ⟨rfl, rfl⟩
      · have hy1 : ((got.getD k lblD).1.toList == x.toList) = false := by rw [beq_eq_false_iff_ne]; exact fun h => HM.out.2.2 k (by omega) (baInj h)
        generalize got.getD k lblD = y at cx1 cx2 hy1
        obtain ⟨y1, y2⟩ := y
        go_wp2_with fail
        go_round
        case rel => exact ⟨k + 1, by omega, by go_num⟩
        case measure => simp [intOf]; omega
end Go.Proofs.Qxb6600238a
