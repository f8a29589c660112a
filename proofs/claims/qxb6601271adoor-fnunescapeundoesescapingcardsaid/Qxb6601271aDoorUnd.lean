import Derived.Test.Qxb6601271aDoorEsc
set_option linter.unusedVariables false
set_option linter.unusedSimpArgs false
namespace Go.Proofs.Qxb6601271aDoor
open Go.RowKit

/-- The byte as the kernel writes it. -/
def kernB (c : UInt8) : List UInt8 := if c = 32 ∨ c = 9 ∨ c = 10 ∨ c = 92 then octB c else [c]
def escK (l : List UInt8) : List UInt8 := l.flatMap kernB
def escA (l : List UInt8) : List UInt8 := l.flatMap octB

theorem parse8_oct (c : UInt8) : parse8 0 [(48 : UInt8) + (c >>> (6 : UInt8)), (48 : UInt8) + ((c >>> (3 : UInt8)) &&& (7 : UInt8)), (48 : UInt8) + (c &&& (7 : UInt8))] = some c.toNat := by
  revert c; apply all256; decide +kernel
theorem unesc_oct (c : UInt8) (rest : List UInt8) : unesc (octB c ++ rest) = c :: unesc rest := by
  unfold octB
  rw [List.cons_append, unesc_cons]
  have : unStep 92 ([(48 : UInt8) + (c >>> (6 : UInt8)), (48 : UInt8) + ((c >>> (3 : UInt8)) &&& (7 : UInt8)), (48 : UInt8) + (c &&& (7 : UInt8))] ++ rest) = (c, rest) := by
    unfold unStep
    rw [if_pos ⟨rfl, by simp⟩]
    simp only [List.cons_append, List.nil_append, List.take_succ_cons, List.take_zero]
    rw [parse8_oct]
    simp
  rw [this]
theorem unesc_plain (c : UInt8) (rest : List UInt8) (h : c ≠ 92) : unesc (c :: rest) = c :: unesc rest := by
  rw [unesc_cons]
  have : unStep c rest = (c, rest) := by
    unfold unStep
    rw [if_neg (fun hh => h hh.1)]
  rw [this]
theorem unesc_escA (l : List UInt8) : unesc (escA l) = l := by
  induction l with
  | nil => rfl
  | cons c l ih =>
    show unesc (octB c ++ escA l) = _
    rw [unesc_oct, ih]
theorem unesc_escK (l : List UInt8) : unesc (escK l) = l := by
  induction l with
  | nil => rfl
  | cons c l ih =>
    show unesc (kernB c ++ escK l) = _
    unfold kernB
    split
    · rw [unesc_oct, ih]
    · rename_i h
      rw [List.singleton_append, unesc_plain c _ (fun e => h (.inr (.inr (.inr e)))), ih]
theorem octB_length (c : UInt8) : (octB c).length = 4 := rfl
theorem kernB_length (c : UInt8) : (kernB c).length ≤ 4 := by
  unfold kernB; split
  · exact Nat.le_refl _
  · simp
theorem escK_length (l : List UInt8) : (escK l).length ≤ 4 * l.length := by
  induction l with
  | nil => exact Nat.le_refl _
  | cons c l ih =>
    have : escK (c :: l) = kernB c ++ escK l := rfl
    rw [this, List.length_append, List.length_cons]
    have := kernB_length c
    omega
theorem escA_length (l : List UInt8) : (escA l).length = 4 * l.length := by
  induction l with
  | nil => rfl
  | cons c l ih =>
    have : escA (c :: l) = octB c ++ escA l := rfl
    rw [this, List.length_append, List.length_cons, octB_length]
    omega
theorem take_next (s : ByteArray) (k : Nat) (h : k < s.size) : s.data.toList.take (k + 1) = s.data.toList.take k ++ [s[k]'h] := by
  have hl : s.data.toList.length = s.size := by simp
  rw [List.take_add_one, List.getElem?_eq_getElem (by rw [hl]; exact h)]
  rfl
theorem escK_snoc (l : List UInt8) (c : UInt8) : escK (l ++ [c]) = escK l ++ kernB c := by simp [escK]
theorem escA_snoc (l : List UInt8) (c : UInt8) : escA (l ++ [c]) = escA l ++ octB c := by simp [escA]
theorem OwnB.len {B : Nat} {w : World} {g n cap : Nat} {out : List UInt8} (h : OwnB B w g n cap out) : out.length = n := by
  have := h.1
  rw [Lib.byteCells_length] at this
  omega

theorem ne92 {c : UInt8} {k : Nat} (hk : k < 256) (h : c ≠ UInt8.ofNat k) : ((c.toNat : Int) == (k : Int)) = false := by
  rw [beq_eq_false_iff_ne]
  intro e
  apply h
  apply UInt8.toNat.inj
  simp
  omega

set_option maxHeartbeats 2000000 in
set_option maxRecDepth 100000 in
theorem appendKernel_any (B g cap : Nat) (s : ByteArray) (hs : s.size ≤ 262144) (w : World) (h : OwnB B w g 0 cap []) (hB0 : B ≤ w.heap.size) :
    Calls Tryd.prog 9 #[.slice (some ⟨g, 0, none⟩) 0 cap, .string s] w fun e w' => ∃ g' n' cap', e = .returned (.slice (some ⟨g', 0, none⟩) n' cap') ∧ OwnB B w' g' n' cap' (escK s.data.toList) ∧ Below B w w' := by
  obtain ⟨i0, hi, hz0, hz1, hz2⟩ := info_parts infoB
  have hsd : s.data.toList.length = s.size := by simp
  have HSD : Hid (s.data.toList.length = s.size) := hsd
  clear hsd
  have H0 : Hid (OwnB B w g 0 cap (escK (s.data.toList.take 0)) ∧ Below B w w) := ⟨h, Below.refl _ _⟩
  clear h
  go_enter Tryd.func9, Tryd.ntmps9
  go_wp2_with fail
  go_loopw [0, 5] (fun v i wq => ∃ (k g n cap : Nat), k ≤ s.size ∧ n ≤ 4 * k ∧ i = .int .i64 k ∧ v = .slice (some ⟨g, 0, none⟩) n cap ∧ Hid (OwnB B wq g n cap (escK (s.data.toList.take k)) ∧ Below B w wq)) (fun _ i _ => s.size - (intOf i).toNat)
  case atStart => exact ⟨0, g, 0, cap, Nat.zero_le _, Nat.le_refl _, rfl, rfl, H0⟩
  case round =>
    obtain ⟨k, g, n, cap, hk, hn, rfl, rfl, HR⟩ := hrel
    have hsz : B ≤ wr.heap.size := by have := HR.out.2.size; omega
    by_cases hlt : k < s.size
    · have hc256 : (s[k]'hlt).toNat < 256 := UInt8.toNat_lt _
      have HD : Hid (escK (s.data.toList.take (k + 1)) = escK (s.data.toList.take k) ++ kernB (s[k]'hlt)) := by
        rw [Hid, take_next s k hlt, escK_snoc]
      have esc_arm : ∀ (hE : s[k]'hlt = 32 ∨ s[k]'hlt = 9 ∨ s[k]'hlt = 10 ∨ s[k]'hlt = 92) (w1 : World) (g1 cap1 : Nat), OwnB B w1 g1 (n + 4) cap1 (escK (s.data.toList.take k) ++ octB (s[k]'hlt)) → Below B wr w1 → Hid (OwnB B w1 g1 (n + 4) cap1 (escK (s.data.toList.take (k + 1))) ∧ Below B w w1) := by
        intro hE w1 g1 cap1 a b
        refine ⟨?_, HR.out.2.trans b⟩
        rw [HD.out]
        unfold kernB
        rw [if_pos hE]
        exact a
      have HA : Hid (∀ (hE : s[k]'hlt = 32 ∨ s[k]'hlt = 9 ∨ s[k]'hlt = 10 ∨ s[k]'hlt = 92) (w1 : World) (g1 cap1 : Nat), OwnB B w1 g1 (n + 4) cap1 (escK (s.data.toList.take k) ++ octB (s[k]'hlt)) → Below B wr w1 → Hid (OwnB B w1 g1 (n + 4) cap1 (escK (s.data.toList.take (k + 1))) ∧ Below B w w1)) := esc_arm
      clear esc_arm
      by_cases h32 : s[k]'hlt = 32
      · have hb : (((s[k]'hlt).toNat : Int) == 32) = true := by rw [h32]; rfl
        have HE : Hid (s[k]'hlt = 32) := h32
        clear h32
        go_wp2_with fail
        refine (appendOctal_any B g n cap _ (s[k]'hlt) _ HR.out.1 (by omega) hsz).mono ?_
        rintro e w1 ⟨g1, cap1, rfl, ho1, hb1⟩
        have HR1 := HA.out (.inl HE.out) w1 g1 cap1 ho1 hb1
        clear ho1 hb1 HR HA
        go_wp2_with fail
        go_roundw
        case rel => exact ⟨k + 1, g1, n + 4, cap1, by omega, by omega, by go_num, rfl, HR1⟩
        case measure => simp [intOf]; omega
      have hb32 : (((s[k]'hlt).toNat : Int) == 32) = false := ne92 (k := 32) (by decide) h32
      by_cases h9 : s[k]'hlt = 9
      · have hb : (((s[k]'hlt).toNat : Int) == 9) = true := by rw [h9]; rfl
        have HE : Hid (s[k]'hlt = 9) := h9
        clear h9 h32
        go_wp2_with fail
        refine (appendOctal_any B g n cap _ (s[k]'hlt) _ HR.out.1 (by omega) hsz).mono ?_
        rintro e w1 ⟨g1, cap1, rfl, ho1, hb1⟩
        have HR1 := HA.out (.inr (.inl HE.out)) w1 g1 cap1 ho1 hb1
        clear ho1 hb1 HR HA
        go_wp2_with fail
        go_roundw
        case rel => exact ⟨k + 1, g1, n + 4, cap1, by omega, by omega, by go_num, rfl, HR1⟩
        case measure => simp [intOf]; omega
      have hb9 : (((s[k]'hlt).toNat : Int) == 9) = false := ne92 (k := 9) (by decide) h9
      by_cases h10 : s[k]'hlt = 10
      · have hb : (((s[k]'hlt).toNat : Int) == 10) = true := by rw [h10]; rfl
        have HE : Hid (s[k]'hlt = 10) := h10
        clear h9 h32 h10
        go_wp2_with fail
        refine (appendOctal_any B g n cap _ (s[k]'hlt) _ HR.out.1 (by omega) hsz).mono ?_
        rintro e w1 ⟨g1, cap1, rfl, ho1, hb1⟩
        have HR1 := HA.out (.inr (.inr (.inl HE.out))) w1 g1 cap1 ho1 hb1
        clear ho1 hb1 HR HA
        go_wp2_with fail
        go_roundw
        case rel => exact ⟨k + 1, g1, n + 4, cap1, by omega, by omega, by go_num, rfl, HR1⟩
        case measure => simp [intOf]; omega
      have hb10 : (((s[k]'hlt).toNat : Int) == 10) = false := ne92 (k := 10) (by decide) h10
      by_cases h92 : s[k]'hlt = 92
      · have hb : (((s[k]'hlt).toNat : Int) == 92) = true := by rw [h92]; rfl
        have HE : Hid (s[k]'hlt = 92) := h92
        clear h9 h32 h10 h92
        go_wp2_with fail
        refine (appendOctal_any B g n cap _ (s[k]'hlt) _ HR.out.1 (by omega) hsz).mono ?_
        rintro e w1 ⟨g1, cap1, rfl, ho1, hb1⟩
        have HR1 := HA.out (.inr (.inr (.inr HE.out))) w1 g1 cap1 ho1 hb1
        clear ho1 hb1 HR HA
        go_wp2_with fail
        go_roundw
        case rel => exact ⟨k + 1, g1, n + 4, cap1, by omega, by omega, by go_num, rfl, HR1⟩
        case measure => simp [intOf]; omega
      have hb92 : (((s[k]'hlt).toNat : Int) == 92) = false := ne92 (k := 92) (by decide) h92
      have HK : Hid (kernB (s[k]'hlt) = [s[k]'hlt]) := by
        rw [Hid]; unfold kernB; rw [if_neg]; rintro (e | e | e | e)
        · exact h32 e
        · exact h9 e
        · exact h10 e
        · exact h92 e
      clear h9 h32 h10 h92 HA
      go_wp2_with (at_builtin; refine wpList_append_lies _ rfl _ _ 23 rfl B 5 i0 (.int .u8 0) 1 1 Tryd.underlying23 hi hz0 hz1 hz2 rfl (by decide) _ _ _ rfl (HR.out.1.alloc _) ⟨wr.heap.size, 0, none⟩ 1 1 [.int .u8 ((s[k]'hlt).toNat : Int)] rfl rfl ?c1 ?c2 (by decide) ?c3 ?c4 ?c5 _ rfl ?_)
      case c1 =>
        intro j u hj
        match j, hj with
        | 0, hj => simp at hj; subst hj; simp [Addr.add]
      case c2 => intro u hu; simp at hu; subst hu; rfl
      case c3 => unfold maxLen; omega
      case c4 => omega
      case c5 => simp; omega
      intro g1 cap1 w1 ho hg _ hlt1
      have HR1 : Hid (OwnB B w1 g1 (n + 1) cap1 (escK (s.data.toList.take (k + 1))) ∧ Below B w w1) := by
        refine ⟨?_, HR.out.2.trans (((Below.refl _ _).alloc hsz _).grown hg (by simp; omega) (fun k hk => (HR.out.1.lt k hk).1))⟩
        rw [HD.out, HK.out]
        exact OwnB.snoc ho rfl
      clear ho hg HR
      go_wp2_with fail
      go_roundw
      case rel => exact ⟨k + 1, g1, n + 1, cap1, by omega, by omega, by go_num, rfl, HR1⟩
      case measure => simp [intOf]; omega
    · have hke : k = s.size := by omega
      subst hke
      have HF : Hid (OwnB B wr g n cap (escK s.data.toList) ∧ Below B w wr) := by
        have := HR.out
        rw [← HSD.out, List.take_length] at this
        exact this
      clear HR
      go_wp2_with fail
      go_ret
      exact ⟨g, n, cap, rfl, HF.out⟩

set_option maxHeartbeats 400000 in
theorem bytes8 (s : ByteArray) (hs : s.size ≤ maxLen) (w : World) : Calls Tryd.prog 8 #[.string s] w fun e w' => e = .returned (.bool (decide (s.size ≤ 1048576))) ∧ w = w' := by
  unfold maxLen at hs
  by_cases h1 : s.size ≤ 1048576
  · go_enter Tryd.func8, Tryd.ntmps8
    go_wp2_with fail
    go_ret
    exact ⟨by simp [h1], rfl⟩
  · go_enter Tryd.func8, Tryd.ntmps8
    go_wp2_with fail
    go_ret
    exact ⟨by simp [h1], rfl⟩

/-- A row of bytes read as a string. -/
theorem OwnB.convert {B : Nat} {w : World} {g n cap : Nat} {out : List UInt8} (h : OwnB B w g n cap out) : (convert 23 9 (.slice (some ⟨g, 0, none⟩) n cap)).run Tryd.prog w = .ok (.string ⟨out.toArray⟩) w := by
  have hl := h.len
  subst hl
  refine run_convert_bytes_back w 23 9 5 ⟨g, 0, none⟩ cap out Tryd.underlying23 Tryd.underlying5 Tryd.underlying9 ?_
  intro j hj
  apply h.cells (g := g) rfl
  simp [Lib.byteCells, hj]

theorem make_own (B : Nat) (w : World) (hB : B ≤ w.heap.size) (c : Nat) (hc : c ≤ 1048576) :
    ∃ w', (Instr.makeSlice 23 (.int .i64 0) (.int .i64 (c : Int))).run Tryd.prog w = .ok (.slice (some ⟨w.heap.size, 0, none⟩) 0 c) w' ∧ OwnB B w' w.heap.size 0 c [] ∧ Below B w w' := by
  obtain ⟨i0, hi, hz0, hz1, hz2⟩ := info_parts infoB
  obtain ⟨w', h1, h2, h3⟩ := run_make_own (P := Tryd.prog) w B 23 5 i0 (.int .u8 0) 1 Tryd.underlying23 hi hz0 hz1 .i64 .i64 c (by rw [hz2]; omega) (by unfold maxLen; omega) hB
  exact ⟨w', h1, h2, (Below.refl _ _).grown h3 hB (fun k hk => by cases hk)⟩

set_option maxHeartbeats 2000000 in
set_option maxRecDepth 100000 in
theorem allEscaped_any (B : Nat) (s : ByteArray) (hs : s.size ≤ 262144) (w : World) (hB0 : B ≤ w.heap.size) :
    Calls Tryd.prog 11 #[.string s] w fun e w' => e = .returned (.string ⟨(escA s.data.toList).toArray⟩) ∧ Below B w w' := by
  have hsd : s.data.toList.length = s.size := by simp
  have HSD : Hid (s.data.toList.length = s.size) := hsd
  clear hsd
  obtain ⟨w0, hm, ho0, hb0⟩ := make_own B w hB0 (4 * s.size) (by omega)
  have hm' : (Instr.makeSlice 23 (.int .i64 0) (.int .i64 (4 * (s.size : Int)))).run Tryd.prog w = .ok (.slice (some ⟨w.heap.size, 0, none⟩) 0 (4 * s.size)) w0 := by
    have e : ((4 * s.size : Nat) : Int) = 4 * (s.size : Int) := by omega
    rw [← e]; exact hm
  have H0 : Hid (OwnB B w0 w.heap.size 0 (4 * s.size) (escA (s.data.toList.take 0)) ∧ Below B w w0) := ⟨ho0, hb0⟩
  clear hm ho0 hb0
  go_enter Tryd.func11, Tryd.ntmps11
  go_wp2_with fail
  clear hm'
  obtain ⟨g0, hg0⟩ : ∃ g0, g0 = w.heap.size := ⟨_, rfl⟩
  rw [← hg0] at H0
  rw [← hg0]
  clear hg0
  go_loopw [3, 4] (fun v i wq => ∃ (k g n cap : Nat), k ≤ s.size ∧ n ≤ 4 * k ∧ i = .int .i64 k ∧ v = .slice (some ⟨g, 0, none⟩) n cap ∧ Hid (OwnB B wq g n cap (escA (s.data.toList.take k)) ∧ Below B w wq)) (fun _ i _ => s.size - (intOf i).toNat)
  case atStart => exact ⟨0, g0, 0, _, Nat.zero_le _, Nat.le_refl _, rfl, rfl, H0⟩
  case round =>
    obtain ⟨k, g, n, cap, hk, hn, rfl, rfl, HR⟩ := hrel
    have hsz : B ≤ wr.heap.size := by have := HR.out.2.size; omega
    by_cases hlt : k < s.size
    · have hc256 : (s[k]'hlt).toNat < 256 := UInt8.toNat_lt _
      have HD : Hid (escA (s.data.toList.take (k + 1)) = escA (s.data.toList.take k) ++ octB (s[k]'hlt)) := by
        rw [Hid, take_next s k hlt, escA_snoc]
      go_wp2_with fail
      refine (appendOctal_any B g n cap _ (s[k]'hlt) _ HR.out.1 (by omega) hsz).mono ?_
      rintro e w1 ⟨g1, cap1, rfl, ho1, hb1⟩
      have HR1 : Hid (OwnB B w1 g1 (n + 4) cap1 (escA (s.data.toList.take (k + 1))) ∧ Below B w w1) := ⟨by rw [HD.out]; exact ho1, HR.out.2.trans hb1⟩
      clear ho1 hb1 HR
      go_wp2_with fail
      go_roundw
      case rel => exact ⟨k + 1, g1, n + 4, cap1, by omega, by omega, by go_num, rfl, HR1⟩
      case measure => simp [intOf]; omega
    · have hke : k = s.size := by omega
      subst hke
      have HF : Hid (OwnB B wr g n cap (escA s.data.toList) ∧ Below B w wr) := by
        have := HR.out
        rw [← HSD.out, List.take_length] at this
        exact this
      have hconv := HF.out.1.convert
      clear HR
      go_wp2_with fail
      go_ret
      exact ⟨rfl, HF.out.2⟩

theorem vars_below {w w' : World} {B : Nat} (hv : Vars w) (hb : Below B w w') (h4 : 4 ≤ B) : Vars w' := hv.below hb h4

set_option maxHeartbeats 1000000 in
set_option maxRecDepth 100000 in
theorem und_walk (s : ByteArray) (hs : s.size ≤ maxLen) (w : World) (hv : Vars w) (h4 : 4 ≤ w.heap.size) :
    Calls Tryd.prog 3 #[.string s] w fun e w' => e = .returned (.bool true) ∧ Below w.heap.size w w' := by
  have HS : Hid (s.size ≤ maxLen) := hs
  have HV : Hid (Vars w) := hv
  unfold maxLen at hs
  clear hv
  by_cases h1 : s.size ≤ 1048576
  · by_cases h2 : s.size ≤ 262144
    · obtain ⟨B, hB⟩ : ∃ B, B = w.heap.size := ⟨_, rfl⟩
      obtain ⟨w0, hm, ho0, hb0⟩ := make_own B w (by omega) (4 * s.size) (by omega)
      have hm' : (Instr.makeSlice 23 (.int .i64 0) (.int .i64 (4 * (s.size : Int)))).run Tryd.prog w = .ok (.slice (some ⟨w.heap.size, 0, none⟩) 0 (4 * s.size)) w0 := by
        have e : ((4 * s.size : Nat) : Int) = 4 * (s.size : Int) := by omega
        rw [← e]; exact hm
      have H0 : Hid (OwnB B w0 w.heap.size 0 (4 * s.size) [] ∧ Below B w w0) := ⟨ho0, hb0⟩
      have hs0 : B ≤ w0.heap.size := by have := hb0.size; omega
      clear hm ho0 hb0
      go_enter Tryd.func3, Tryd.ntmps3
      go_wp2_with fail
      refine (bytes8 s HS.out _).mono ?_
      rintro e w1 ⟨rfl, rfl⟩
      rw [decide_eq_true h1]
      go_wp2_with fail
      refine (appendKernel_any B _ _ s h2 w0 H0.out.1 hs0).mono ?_
      rintro e w1 ⟨g1, n1, cap1, rfl, ho1, hb1⟩
      have hconv := ho1.convert
      have HB1 : Hid (Below B w w1) := H0.out.2.trans hb1
      have hs1 : B ≤ w1.heap.size := by have := HB1.out.size; omega
      clear hm' ho1 hb1 H0
      go_wp2_with fail
      have hsd : s.data.toList.length = s.size := by simp
      have hkl := escK_length s.data.toList
      have hal := escA_length s.data.toList
      rw [hsd] at hkl hal
      clear hconv
      refine (zzunescape_any ⟨(escK s.data.toList).toArray⟩ (by simp [ByteArray.size]; omega) _ (HV.out.below HB1.out (by omega)) (by omega)).mono ?_
      rintro e w2 ⟨rfl, hb2⟩
      have HB2 : Hid (Below B w w2) := HB1.out.trans (hb2.mono hs1)
      have hs2 : B ≤ w2.heap.size := by have := HB2.out.size; omega
      have e1 : (⟨(unesc (⟨(escK s.data.toList).toArray⟩ : ByteArray).data.toList).toArray⟩ : ByteArray) = s := by
        apply toList_inj; rw [mk_toList, mk_toList, unesc_escK]
      rw [e1]
      clear hb2 HB1 e1
      go_wp2_with fail
      refine (allEscaped_any B s h2 _ hs2).mono ?_
      rintro e w3 ⟨rfl, hb3⟩
      have HB3 : Hid (Below B w w3) := HB2.out.trans hb3
      have hs3 : B ≤ w3.heap.size := by have := HB3.out.size; omega
      clear hb3 HB2
      go_wp2_with fail
      refine (zzunescape_any ⟨(escA s.data.toList).toArray⟩ (by simp [ByteArray.size]; omega) _ (HV.out.below HB3.out (by omega)) (by omega)).mono ?_
      rintro e w4 ⟨rfl, hb4⟩
      have HB4 : Hid (Below w.heap.size w w4) := by rw [← hB]; exact HB3.out.trans (hb4.mono hs3)
      have e2 : (⟨(unesc (⟨(escA s.data.toList).toArray⟩ : ByteArray).data.toList).toArray⟩ : ByteArray) = s := by
        apply toList_inj; rw [mk_toList, mk_toList, unesc_escA]
      rw [e2]
      clear hb4 HB3 e2
      go_wp2_with fail
      go_ret
      exact ⟨by simp, HB4.out⟩
    · go_enter Tryd.func3, Tryd.ntmps3
      go_wp2_with fail
      refine (bytes8 s HS.out _).mono ?_
      rintro e w1 ⟨rfl, rfl⟩
      rw [decide_eq_true h1]
      go_wp2_with fail
      go_ret
      exact ⟨rfl, Below.refl _ _⟩
  · go_enter Tryd.func3, Tryd.ntmps3
    go_wp2_with fail
    refine (bytes8 s HS.out _).mono ?_
    rintro e w1 ⟨rfl, rfl⟩
    rw [decide_eq_false h1]
    go_wp2_with fail
    go_ret
    exact ⟨rfl, Below.refl _ _⟩
end Go.Proofs.Qxb6601271aDoor
