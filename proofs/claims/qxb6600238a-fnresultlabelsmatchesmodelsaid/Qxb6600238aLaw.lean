import Derived.Test.Qxb6600238aFn5
import Derived.Test.Qxb6600238aZz
import Derived.Test.Qxb6600238aPl
set_option linter.unusedVariables false
set_option linter.unusedSimpArgs false
set_option linter.unusedSectionVars false
namespace Go.Proofs.Qxb6600238a
open Go.Shelf Go.RowKit Go.Lib Go.Sort

/-- Where the law stands once the result is there. -/
def LawW (w wq : World) (card : Int) (on drop : Bool) (p1 p2 p3 p4 p5 p6 : Option Addr) (n1 n2 n3 n5 c1 c2 c3 c4 c5 c6 : Nat) (ml il mn mv on1 ov : List ByteArray) (g n cap : Nat) (got : List Lbl) : Prop :=
  Below w.heap.size w wq ∧ StrS wq p1 n1 ml ∧ StrS wq p2 n2 il ∧ StrS wq p3 n3 mn ∧ StrS wq p4 n3 mv ∧ StrS wq p5 n5 on1 ∧ StrS wq p6 n5 ov ∧ OwnL w.heap.size wq g n cap got
theorem LawW.kept {w wq wq' : World} {card : Int} {on drop : Bool} {p1 p2 p3 p4 p5 p6 : Option Addr} {n1 n2 n3 n5 c1 c2 c3 c4 c5 c6 : Nat} {ml il mn mv on1 ov : List ByteArray} {g n cap : Nat} {got : List Lbl} (h : LawW w wq card on drop p1 p2 p3 p4 p5 p6 n1 n2 n3 n5 c1 c2 c3 c4 c5 c6 ml il mn mv on1 ov g n cap got) (hb : Below wq.heap.size wq wq') : LawW w wq' card on drop p1 p2 p3 p4 p5 p6 n1 n2 n3 n5 c1 c2 c3 c4 c5 c6 ml il mn mv on1 ov g n cap got := by
  obtain ⟨h0, h1, h2, h3, h4, h5, h6, h7⟩ := h
  exact ⟨h0.trans (hb.mono h0.size), h1.kept hb, h2.kept hb, h3.kept hb, h4.kept hb, h5.kept hb, h6.kept hb, h7.kept hb h7.lt⟩
theorem LawW.exp {w wq : World} {card : Int} {on drop : Bool} {p1 p2 p3 p4 p5 p6 : Option Addr} {n1 n2 n3 n5 c1 c2 c3 c4 c5 c6 : Nat} {ml il mn mv on1 ov : List ByteArray} {g n cap : Nat} {got : List Lbl} (h : LawW w wq card on drop p1 p2 p3 p4 p5 p6 n1 n2 n3 n5 c1 c2 c3 c4 c5 c6 ml il mn mv on1 ov g n cap got) (k1 : n1 ≤ 4096) (k2 : n2 ≤ 4096) (k3 : n3 ≤ 4096) (k5 : n5 ≤ 4096) (x : ByteArray) :
    Calls Try.prog 22 #[.int .i64 card, .bool on, .slice p1 n1 c1, .slice p2 n2 c2, .slice p3 n3 c3, .slice p4 n3 c4, .slice p5 n5 c5, .slice p6 n5 c6, .bool drop, .string x] wq fun e w' =>
      e = .returned (.string (expL card on drop ml il (zipL mn mv) (zipL on1 ov) x)) ∧ wq = w' := by
  obtain ⟨h0, h1, h2, h3, h4, h5, h6, h7⟩ := h
  exact expected_any card on drop p1 p2 p3 p4 p5 p6 n1 n2 n3 n5 c1 c2 c3 c4 c5 c6 ml il mn mv on1 ov x wq h1 h2 h3 h4 h5 h6 k1 k2 k3 k5
/-- What is known of the result. -/
def GotW (got : List Lbl) (e : ByteArray → ByteArray) : Prop :=
  SAsc got ∧ (∀ x ∈ got, x.2 ≠ ByteArray.empty) ∧ (∀ t, getL got t = e t) ∧ (∀ x ∈ got, x.1.size ≤ maxLen) ∧ got.length ≤ 8192

theorem OwnL.weak {B B' : Nat} {w : World} {g n cap : Nat} {l : List Lbl} (h : OwnL B w g n cap l) (hb : B' ≤ B) : OwnL B' w g n cap l := by
  obtain ⟨cur, r1, r2, r3, r4, r5, r6, r7⟩ := h.parts
  exact OwnL.mk h.len (by omega) r3 r4 r5 r6 r7
theorem getD_mem (l : List ByteArray) (j : Nat) (h : j < l.length) : l.getD j ByteArray.empty ∈ l := by
  simp only [List.getD, List.getElem?_eq_getElem h, Option.getD_some]; exact List.getElem_mem h
theorem zip_mem {ns vs : List ByteArray} {n : Nat} (h1 : ns.length = n) (h2 : vs.length = n) (x : Lbl) (hx : x ∈ zipL ns vs) : ∃ j, j < n ∧ x = (ns.getD j ByteArray.empty, vs.getD j ByteArray.empty) := by
  obtain ⟨j, hj, rfl⟩ := List.mem_iff_getElem.1 hx
  rw [zipL_len ns vs n h1 h2] at hj
  exact ⟨j, hj, by rw [← zipL_getD ns vs n h1 h2 j hj, getD_eq _ _ (by rw [zipL_len ns vs n h1 h2]; exact hj)]⟩
theorem gotW_of {card : Int} {on drop : Bool} {ml il mn mv on1 ov : List ByteArray} {n2 n3 : Nat} {got : List Lbl} (h1 : mn.length = n3) (h2 : mv.length = n3) (h3 : il.length = n2) (k2 : n2 ≤ 4096) (k3 : n3 ≤ 4096)
    (hm : SAsc (zipL mn mv)) (hv : ∀ j, j < n3 → mv.getD j ByteArray.empty ≠ ByteArray.empty) (ho : SAsc (zipL on1 ov)) (z2 : ∀ s ∈ il, s.size ≤ maxLen) (z3 : ∀ s ∈ mn, s.size ≤ maxLen)
    (h : ResSpec card on drop ml il (zipL mn mv) (zipL on1 ov) got) : GotW got (expL card on drop ml il (zipL mn mv) (zipL on1 ov)) := by
  obtain ⟨q1, q2, q3, q4, q5⟩ := got_ok hm ho (fun x hx => by
    obtain ⟨j, hj, rfl⟩ := zip_mem h1 h2 x hx
    exact hv j hj) h
  refine ⟨q1, q2, q3, fun x hx => ?_, ?_⟩
  · rcases q4 x hx with ⟨y, hy, e⟩ | hi
    · obtain ⟨j, hj, rfl⟩ := zip_mem h1 h2 y hy
      rw [← e]
      exact z3 _ (getD_mem mn j (by omega))
    · exact z2 _ hi
  · rw [zipL_len mn mv n3 h1 h2] at q5
    omega

set_option maxHeartbeats 8000000 in
set_option maxRecDepth 1000000 in
theorem law_any (card : Int) (on drop : Bool) (p1 p2 p3 p4 p5 p6 : Option Addr) (n1 n2 n3 n4 n5 n6 c1 c2 c3 c4 c5 c6 : Nat) (ml il mn mv on1 ov : List ByteArray) (w : World)
    (h1 : StrS w p1 n1 ml) (h2 : StrS w p2 n2 il) (h3 : StrS w p3 n3 mn) (h4 : StrS w p4 n4 mv) (h5 : StrS w p5 n5 on1) (h6 : StrS w p6 n6 ov)
    (m1 : n1 ≤ maxLen) (m2 : n2 ≤ maxLen) (m3 : n3 ≤ maxLen) (m4 : n4 ≤ maxLen) (m5 : n5 ≤ maxLen) (m6 : n6 ≤ maxLen)
    (z2 : ∀ s ∈ il, s.size ≤ maxLen) (z3 : ∀ s ∈ mn, s.size ≤ maxLen) (z5 : ∀ s ∈ on1, s.size ≤ maxLen) :
    Calls Try.prog 6 #[.int .i64 card, .bool on, .slice p1 n1 c1, .slice p2 n2 c2, .slice p3 n3 c3, .slice p4 n4 c4, .slice p5 n5 c5, .slice p6 n6 c6, .bool drop] w fun e w' =>
      e = .returned (.bool true) ∧ Below w.heap.size w w' := by
  have d1 := zzbytes_any card on drop p1 p2 p3 p4 p5 p6 n1 n2 n3 n4 n5 n6 c1 c2 c3 c4 c5 c6 ml il mn mv on1 ov w h1 h2 h3 h4 h5 h6 m1 m2 m3 m4 m5 m6
  have d2 := sizes_any p1 p2 p3 p4 p5 p6 n1 n2 n3 n4 n5 n6 c1 c2 c3 c4 c5 c6 ml il mn mv on1 ov w h1 h2 h3 h4 h5 h6 m1 m2 m3 m4 m5 m6
  have H1 : Aside (StrS w p1 n1 ml) := h1
  have H2 : Aside (StrS w p2 n2 il) := h2
  have H3 : Aside (StrS w p3 n3 mn) := h3
  have H4 : Aside (StrS w p4 n4 mv) := h4
  have H5 : Aside (StrS w p5 n5 on1) := h5
  have H6 : Aside (StrS w p6 n6 ov) := h6
  have Z2 : Aside (∀ s ∈ il, s.size ≤ maxLen) := z2
  have Z3 : Aside (∀ s ∈ mn, s.size ≤ maxLen) := z3
  have Z5 : Aside (∀ s ∈ on1, s.size ≤ maxLen) := z5
  clear h1 h2 h3 h4 h5 h6 m1 m2 m3 m4 m5 m6 z2 z3 z5
  go_enter Try.func6, Try.ntmps6
  go_wp2_with fail
  refine d1.mono ?_
  rintro e w1 ⟨he, rfl⟩
  clear d1
  rcases he with rfl | rfl
  · go_wp2_with fail
    go_ret
    exact ⟨rfl, Below.refl _ _⟩
  · go_wp2_with fail
    refine d2.mono ?_
    rintro e w1 ⟨he, rfl⟩
    clear d2
    rcases he with rfl | ⟨rfl, k1, k2, k3, k4, k5, k6⟩
    · go_wp2_with fail
      go_ret
      exact ⟨rfl, Below.refl _ _⟩
    · have d3 := isSet_any p3 p4 n3 n4 c3 c4 mn mv w H3.out H4.out Z3.out k3 k4
      go_wp2_with fail
      refine d3.mono ?_
      rintro e w1 ⟨he, q1, hw1⟩
      clear d3
      have hb1 : Below w.heap.size w w1 := by rw [hw1]; exact below_drewN _ _ _
      have HB1 : Hid (Below w.heap.size w w1) := hb1
      clear hw1 q1 hb1
      rcases he with rfl | ⟨rfl, hnn, hs3, hv3⟩
      · go_wp2_with fail
        go_ret
        exact ⟨rfl, HB1.out⟩
      · subst hnn
        have HM : Hid (SAsc (zipL mn mv) ∧ ∀ j, j < n3 → mv.getD j ByteArray.empty ≠ ByteArray.empty) := ⟨hs3, hv3⟩
        clear hs3 hv3
        have d4 := isSet_any p5 p6 n5 n6 c5 c6 on1 ov w1 (H5.out.kept HB1.out) (H6.out.kept HB1.out) Z5.out k5 k6
        go_wp2_with fail
        refine d4.mono ?_
        rintro e w2 ⟨he, q2, hw2⟩
        clear d4
        have hb2 : Below w.heap.size w w2 := by rw [hw2]; exact HB1.out.trans (below_drewN _ _ _)
        have HB2 : Hid (Below w.heap.size w w2) := hb2
        clear hw2 q2 hb2 HB1
        rcases he with rfl | ⟨rfl, hnn, hs5, hv5⟩
        · go_wp2_with fail
          go_ret
          exact ⟨rfl, HB2.out⟩
        · subst hnn
          have HO : Hid (SAsc (zipL on1 ov)) := hs5
          clear hs5 hv5 k4 k6
          have d := qclone_any p1 n1 c1 ml w2 (H1.out.kept HB2.out) k1
          go_wp2_with fail
          refine d.mono ?_
          rintro e w3 ⟨r1, e1, rfl, hs, hb⟩
          clear d
          have HS1 : Hid (Below w.heap.size w w3 ∧ StrS w3 r1 n1 ml) := ⟨HB2.out.trans (hb.mono HB2.out.size), hs⟩
          clear HB2 hs hb
          have d := qclone_any p2 n2 c2 il w3 (H2.out.kept HS1.out.1) k2
          go_wp2_with fail
          refine d.mono ?_
          rintro e w4 ⟨r2, e2, rfl, hs, hb⟩
          clear d
          have HS2 : Hid (Below w.heap.size w w4 ∧ StrS w4 r1 n1 ml ∧ StrS w4 r2 n2 il) := ⟨HS1.out.1.trans (hb.mono HS1.out.1.size), (HS1.out.2).kept hb, hs⟩
          clear HS1 hs hb
          have d := qclone_any p3 n3 c3 mn w4 (H3.out.kept HS2.out.1) k3
          go_wp2_with fail
          refine d.mono ?_
          rintro e w5 ⟨r3, e3, rfl, hs, hb⟩
          clear d
          have HS3 : Hid (Below w.heap.size w w5 ∧ StrS w5 r1 n1 ml ∧ StrS w5 r2 n2 il ∧ StrS w5 r3 n3 mn) := ⟨HS2.out.1.trans (hb.mono HS2.out.1.size), (HS2.out.2.1).kept hb, (HS2.out.2.2).kept hb, hs⟩
          clear HS2 hs hb
          have d := qclone_any p4 n3 c4 mv w5 (H4.out.kept HS3.out.1) k3
          go_wp2_with fail
          refine d.mono ?_
          rintro e w6 ⟨r4, e4, rfl, hs, hb⟩
          clear d
          have HS4 : Hid (Below w.heap.size w w6 ∧ StrS w6 r1 n1 ml ∧ StrS w6 r2 n2 il ∧ StrS w6 r3 n3 mn ∧ StrS w6 r4 n3 mv) := ⟨HS3.out.1.trans (hb.mono HS3.out.1.size), (HS3.out.2.1).kept hb, (HS3.out.2.2.1).kept hb, (HS3.out.2.2.2).kept hb, hs⟩
          clear HS3 hs hb
          have d := qclone_any p5 n5 c5 on1 w6 (H5.out.kept HS4.out.1) k5
          go_wp2_with fail
          refine d.mono ?_
          rintro e w7 ⟨r5, e5, rfl, hs, hb⟩
          clear d
          have HS5 : Hid (Below w.heap.size w w7 ∧ StrS w7 r1 n1 ml ∧ StrS w7 r2 n2 il ∧ StrS w7 r3 n3 mn ∧ StrS w7 r4 n3 mv ∧ StrS w7 r5 n5 on1) := ⟨HS4.out.1.trans (hb.mono HS4.out.1.size), (HS4.out.2.1).kept hb, (HS4.out.2.2.1).kept hb, (HS4.out.2.2.2.1).kept hb, (HS4.out.2.2.2.2).kept hb, hs⟩
          clear HS4 hs hb
          have d := qclone_any p6 n5 c6 ov w7 (H6.out.kept HS5.out.1) k5
          go_wp2_with fail
          refine d.mono ?_
          rintro e w8 ⟨r6, e6, rfl, hs, hb⟩
          clear d
          have HS6 : Hid (Below w.heap.size w w8 ∧ StrS w8 r1 n1 ml ∧ StrS w8 r2 n2 il ∧ StrS w8 r3 n3 mn ∧ StrS w8 r4 n3 mv ∧ StrS w8 r5 n5 on1 ∧ StrS w8 r6 n5 ov) := ⟨HS5.out.1.trans (hb.mono HS5.out.1.size), (HS5.out.2.1).kept hb, (HS5.out.2.2.1).kept hb, (HS5.out.2.2.2.1).kept hb, (HS5.out.2.2.2.2.1).kept hb, (HS5.out.2.2.2.2.2).kept hb, hs⟩
          clear HS5 hs hb
          have HS7 : Hid (Below w.heap.size w (w8.alloc (.cells #[.int .i64 card, .bool on, .slice r1 n1 e1, .slice r2 n2 e2] 35)) ∧ (w8.alloc (.cells #[.int .i64 card, .bool on, .slice r1 n1 e1, .slice r2 n2 e2] 35)).heap[w8.heap.size]? = some (.cells #[.int .i64 card, .bool on, .slice r1 n1 e1, .slice r2 n2 e2] 35 (0, 0)) ∧ Below w8.heap.size w8 (w8.alloc (.cells #[.int .i64 card, .bool on, .slice r1 n1 e1, .slice r2 n2 e2] 35))) :=
            ⟨HS6.out.1.alloc HS6.out.1.size _, heap_alloc_new w8 _, (Below.refl _ _).alloc (Nat.le_refl _) _⟩
          go_wp2_with fail
          have HS8 : Hid (StrS (w8.alloc (.cells #[.int .i64 card, .bool on, .slice r1 n1 e1, .slice r2 n2 e2] 35)) r1 n1 ml ∧ StrS (w8.alloc (.cells #[.int .i64 card, .bool on, .slice r1 n1 e1, .slice r2 n2 e2] 35)) r2 n2 il ∧ StrS (w8.alloc (.cells #[.int .i64 card, .bool on, .slice r1 n1 e1, .slice r2 n2 e2] 35)) r3 n3 mn ∧ StrS (w8.alloc (.cells #[.int .i64 card, .bool on, .slice r1 n1 e1, .slice r2 n2 e2] 35)) r4 n3 mv ∧ StrS (w8.alloc (.cells #[.int .i64 card, .bool on, .slice r1 n1 e1, .slice r2 n2 e2] 35)) r5 n5 on1 ∧ StrS (w8.alloc (.cells #[.int .i64 card, .bool on, .slice r1 n1 e1, .slice r2 n2 e2] 35)) r6 n5 ov) := by
            obtain ⟨_, t1, t2, t3, t4, t5, t6⟩ := HS6.out
            have hb := HS7.out.2.2
            exact ⟨t1.kept hb, t2.kept hb, t3.kept hb, t4.kept hb, t5.kept hb, t6.kept hb⟩
          have HMB : Hid (w8.heap.size < (w8.alloc (.cells #[.int .i64 card, .bool on, .slice r1 n1 e1, .slice r2 n2 e2] 35)).heap.size) := by rw [Hid]; simp
          have HS9 : Hid (Below w.heap.size w (w8.alloc (.cells #[.int .i64 card, .bool on, .slice r1 n1 e1, .slice r2 n2 e2] 35)) ∧ (w8.alloc (.cells #[.int .i64 card, .bool on, .slice r1 n1 e1, .slice r2 n2 e2] 35)).heap[w8.heap.size]? = some (.cells #[.int .i64 card, .bool on, .slice r1 n1 e1, .slice r2 n2 e2] 35 (0, 0))) := ⟨HS7.out.1, HS7.out.2.1⟩
          clear HS6 HS7
          generalize w8.alloc (.cells #[.int .i64 card, .bool on, .slice r1 n1 e1, .slice r2 n2 e2] 35) = w9 at HS8 HS9 HMB ⊢
          generalize w8.heap.size = mb at HS9 HMB ⊢
          have d := qlabels_any r3 r4 n3 e3 e4 mn mv w9 HS8.out.2.2.1 HS8.out.2.2.2.1 k3
          refine d.mono ?_
          rintro e w10 ⟨g1, rfl, ho1, hb1⟩
          have HT1 : Hid (OwnL w9.heap.size w10 g1 n3 n3 (zipL mn mv) ∧ Below w9.heap.size w9 w10) := ⟨ho1, hb1⟩
          clear d ho1 hb1
          have d := qlabels_any r5 r6 n5 e5 e6 on1 ov w10 (HS8.out.2.2.2.2.1.kept HT1.out.2) (HS8.out.2.2.2.2.2.kept HT1.out.2) k5
          go_wp2_with fail
          refine d.mono ?_
          rintro e w11 ⟨g2, rfl, ho2, hb2⟩
          clear d
          have HRP : Hid (RlPre w.heap.size w11 mb card on r1 n1 e1 ml r2 n2 e2 il g1 n3 n3 (zipL mn mv) g2 n5 n5 (zipL on1 ov) ∧ Below w.heap.size w w11 ∧ StrS w11 r1 n1 ml ∧ StrS w11 r2 n2 il ∧ StrS w11 r3 n3 mn ∧ StrS w11 r4 n3 mv ∧ StrS w11 r5 n5 on1 ∧ StrS w11 r6 n5 ov) := by
            obtain ⟨t1, t2, t3, t4, t5, t6⟩ := HS8.out
            obtain ⟨s1, s2⟩ := HS9.out
            obtain ⟨u1, u2⟩ := HT1.out
            have hb : Below w9.heap.size w9 w11 := u2.trans (hb2.mono u2.size)
            have hmb := HMB.out
            have hblk : w11.heap[mb]? = some (.cells #[.int .i64 card, .bool on, .slice r1 n1 e1, .slice r2 n2 e2] 35 (0, 0)) := by rw [hb.block mb hmb]; exact s2
            have s0 := s1.size
            have s3 := hb.size
            have s4 := u2.size
            refine ⟨⟨by omega, ?_, ?_, ?_, ?_, t1.kept hb, t2.kept hb, (u1.kept hb2 u1.lt).weak s0, OwnL.weak ho2 (by omega)⟩, s1.trans (hb.mono s0), t1.kept hb, t2.kept hb, t3.kept hb, t4.kept hb, t5.kept hb, t6.kept hb⟩
            · simp [World.cell?, hblk]
            · simp [World.cell?, hblk]
            · simp [World.cell?, hblk]
            · simp [World.cell?, hblk]
          clear HS8 HS9 HT1 HMB ho2 hb2
          have d := zzres_any w.heap.size w11 mb card on drop r1 n1 e1 ml r2 n2 e2 il g1 n3 n3 (zipL mn mv) g2 n5 n5 (zipL on1 ov) HRP.out.1 HO.out k3 k5 k1 k2
          go_wp2_with fail
          refine d.mono ?_
          rintro e w12 ⟨g, n, cap, rfl, got, ho, hr, hb⟩
          clear d
          have HLW : Hid (LawW w w12 card on drop r1 r2 r3 r4 r5 r6 n1 n2 n3 n5 e1 e2 e3 e4 e5 e6 ml il mn mv on1 ov g n cap got) := by
            obtain ⟨_, s1, t1, t2, t3, t4, t5, t6⟩ := HRP.out
            exact ⟨s1.trans (hb.mono s1.size), t1.kept hb, t2.kept hb, t3.kept hb, t4.kept hb, t5.kept hb, t6.kept hb, OwnL.weak ho s1.size⟩
          have HGW : Hid (GotW got (expL card on drop ml il (zipL mn mv) (zipL on1 ov))) := by
            obtain ⟨_, s1, t1, t2, t3, t4, t5, t6⟩ := HRP.out
            exact gotW_of t3.1 t4.1 t2.1 k2 k3 HM.out.1 HM.out.2 HO.out Z2.out Z3.out hr
          have HGL : Hid (got.length = n) := ho.len
          have hn : n ≤ 8192 := by have := HGW.out.2.2.2.2; rw [HGL.out] at this; exact this
          clear HRP ho hr hb HM HO Z2 Z3 Z5 H1 H2 H3 H4 H5 H6
          go_wp2_with fail
          go_loopw [21] (fun vi wq => ∃ (i : Nat), i ≤ n ∧ vi = .int .i64 i ∧ Hid (LawW w wq card on drop r1 r2 r3 r4 r5 r6 n1 n2 n3 n5 e1 e2 e3 e4 e5 e6 ml il mn mv on1 ov g n cap got)) (fun vi _ => n - (intOf vi).toNat)
          case atStart => exact ⟨0, Nat.zero_le _, rfl, HLW⟩
          case round =>
            clear HLW
            obtain ⟨i, hin, rfl, HL⟩ := hrel
            by_cases hlt : i < n
            · have hlti : (i : Int) < (n : Int) := by omega
              obtain ⟨x, hx⟩ : ∃ x, x = got.getD i lblD := ⟨_, rfl⟩
              have cx := HL.out.2.2.2.2.2.2.2.cell i (by rw [HGL.out]; exact hlt)
              rw [← getD_eq got i (by rw [HGL.out]; exact hlt), ← hx] at cx
              obtain ⟨cx1, cx2⟩ := cx
              have hxm : x ∈ got := by rw [hx, getD_eq got i (by rw [HGL.out]; exact hlt)]; exact List.getElem_mem _
              have HXE : Hid (expL card on drop ml il (zipL mn mv) (zipL on1 ov) x.1 = x.2) := by rw [Hid, ← HGW.out.2.2.1 x.1]; exact getL_mem HGW.out.1 x hxm
              have hne : (x.2.toList == []) = false := by rw [beq_eq_false_iff_ne]; exact fun h => HGW.out.2.1 x hxm (baInj (h.trans baNil.symm))
              have HX : Hid (x = got.getD i lblD ∧ x ∈ got) := ⟨hx, hxm⟩
              obtain ⟨x1, x2⟩ := x
              clear hx hxm
              rcases Nat.eq_zero_or_pos i with h0 | h0
              · subst h0
                have cx1' : wr.cell? ⟨g, 0, none⟩ = some (.string x1) := by simpa using cx1
                have cx2' : wr.cell? ⟨g, 1, none⟩ = some (.string x2) := by simpa using cx2
                go_wp2_with fail
                go_quiet (fail)
                have HL2 : Hid (LawW w (wr.drewN nq) card on drop r1 r2 r3 r4 r5 r6 n1 n2 n3 n5 e1 e2 e3 e4 e5 e6 ml il mn mv on1 ov g n cap got) := HL.out.kept (below_drewN _ wr nq)
                have cy1 : (wr.drewN nq).cell? ⟨g, 0, none⟩ = some (.string x1) := cx1'
                have cy2 : (wr.drewN nq).cell? ⟨g, 1, none⟩ = some (.string x2) := cx2'
                clear HL cx1 cx2 cx1' cx2' hne
                generalize wr.drewN nq = w7 at HL2 cy1 cy2 ⊢
                clear nq
                have cE : ∀ n, Calls Try.prog 22 #[.int .i64 card, .bool on, .slice r1 n1 e1, .slice r2 n2 e2, .slice r3 n3 e3, .slice r4 n3 e4, .slice r5 n5 e5, .slice r6 n5 e6, .bool drop, .string x1] (w7.drewN n) fun e w' => e = .returned (.string x2) ∧ ∃ m, w' = w7.drewN m := fun n =>
                  ((HL2.out.kept (below_drewN _ w7 n)).exp k1 k2 k3 k5 x1).mono fun e w' ⟨h1, h2⟩ => ⟨by rw [h1, HXE.out], n, h2.symm⟩
                go_wp2_with fail
                go_quiet (first | (go_at_call 22; exact cE _))
                have HL3 : Hid (LawW w (w7.drewN nq) card on drop r1 r2 r3 r4 r5 r6 n1 n2 n3 n5 e1 e2 e3 e4 e5 e6 ml il mn mv on1 ov g n cap got) := HL2.out.kept (below_drewN _ w7 nq)
                clear HL2 cy1 cy2 cE
                generalize w7.drewN nq = w8' at HL3 ⊢
                clear nq
                go_wp2_with fail
                go_roundw
                case rel => exact ⟨0 + 1, by omega, by go_num, HL3⟩
                case measure => simp [intOf]; omega
              · obtain ⟨ip, rfl⟩ : ∃ ip, i = ip + 1 := ⟨i - 1, by omega⟩
                obtain ⟨v, hv⟩ : ∃ v, v = got.getD ip lblD := ⟨_, rfl⟩
                have cv := (HL.out.2.2.2.2.2.2.2.cell ip (by rw [HGL.out]; omega)).1
                rw [← getD_eq got ip (by rw [HGL.out]; omega), ← hv] at cv
                have hvm : v ∈ got := by rw [hv, getD_eq got ip (by rw [HGL.out]; omega)]; exact List.getElem_mem _
                have hlt0 : compareBytes v.1.data.toList x1.data.toList < 0 := by
                  have := List.pairwise_iff_getElem.1 HGW.out.1 ip (ip + 1) (by rw [HGL.out]; omega) (by rw [HGL.out]; omega) (by omega)
                  rw [← getD_eq got ip (by rw [HGL.out]; omega), ← getD_eq got (ip + 1) (by rw [HGL.out]; omega), ← hv, ← HX.out.1] at this
                  exact this
                have cc := fun n => compare_quiet v.1 x1 (HGW.out.2.2.2.1 v hvm) (HGW.out.2.2.2.1 _ HX.out.2) wr n
                obtain ⟨v1, v2⟩ := v
                generalize compareBytes v1.data.toList x1.data.toList = r at cc hlt0
                have hr2 : ¬ 0 ≤ r := by omega
                have hr3 : decide (0 ≤ r) = false := decide_eq_false hr2
                have ff1 : ((ip : Int) + 1).toNat = ip + 1 := by omega
                have ff2 : (ip : Int) + 1 - 1 = (ip : Int) := by omega
                have ff3 : (0 : Int) ≤ (ip : Int) + 1 := by omega
                have hpos : (0 : Int) < (ip : Int) + 1 := by omega
                have hlt3 : (ip : Int) < (n : Int) := by omega
                have hlt4 : (ip : Int) + 1 < (n : Int) := by omega
                clear hv hvm h0
                go_wp2_with fail
                go_quiet (first | (go_at_call 21; exact cc _))
                have HL2 : Hid (LawW w (wr.drewN nq) card on drop r1 r2 r3 r4 r5 r6 n1 n2 n3 n5 e1 e2 e3 e4 e5 e6 ml il mn mv on1 ov g n cap got) := HL.out.kept (below_drewN _ wr nq)
                have cy1 : (wr.drewN nq).cell? ⟨g, (ip + 1) * 2, none⟩ = some (.string x1) := cx1
                have cy2 : (wr.drewN nq).cell? ⟨g, (ip + 1) * 2 + 1, none⟩ = some (.string x2) := cx2
                clear HL cx1 cx2 hne cc cv hlt0 hr2 hr3
                generalize wr.drewN nq = w7 at HL2 cy1 cy2 ⊢
                clear nq
                have cE : ∀ n, Calls Try.prog 22 #[.int .i64 card, .bool on, .slice r1 n1 e1, .slice r2 n2 e2, .slice r3 n3 e3, .slice r4 n3 e4, .slice r5 n5 e5, .slice r6 n5 e6, .bool drop, .string x1] (w7.drewN n) fun e w' => e = .returned (.string x2) ∧ ∃ m, w' = w7.drewN m := fun n =>
                  ((HL2.out.kept (below_drewN _ w7 n)).exp k1 k2 k3 k5 x1).mono fun e w' ⟨h1, h2⟩ => ⟨by rw [h1, HXE.out], n, h2.symm⟩
                go_wp2_with fail
                go_quiet (first | (go_at_call 22; exact cE _))
                have HL3 : Hid (LawW w (w7.drewN nq) card on drop r1 r2 r3 r4 r5 r6 n1 n2 n3 n5 e1 e2 e3 e4 e5 e6 ml il mn mv on1 ov g n cap got) := HL2.out.kept (below_drewN _ w7 nq)
                clear HL2 cy1 cy2 cE
                generalize w7.drewN nq = w8' at HL3 ⊢
                clear nq
                go_wp2_with fail
                go_roundw
                case rel => exact ⟨ip + 1 + 1, by omega, by go_num, HL3⟩
                case measure => simp [intOf]; omega
            · have hlti : ¬ (i : Int) < (n : Int) := by omega
              go_wp2_with fail
              go_loopw [22] (fun vi wq => ∃ (i : Nat), i ≤ n3 ∧ vi = .int .i64 i ∧ Hid (LawW w wq card on drop r1 r2 r3 r4 r5 r6 n1 n2 n3 n5 e1 e2 e3 e4 e5 e6 ml il mn mv on1 ov g n cap got)) (fun vi _ => n3 - (intOf vi).toNat)
              case atStart => exact ⟨0, Nat.zero_le _, rfl, HL⟩
              case round =>
                clear HL
                obtain ⟨i, hin, rfl, HL22⟩ := hrel
                by_cases hlt : i < n3
                · have hlti : (i : Int) < (n3 : Int) := by omega
                  obtain ⟨b, off, hrr, hb, hc⟩ := HL22.out.2.2.2.1.2 i hlt
                  subst hrr
                  have cx := hc i hlt
                  obtain ⟨x, hx⟩ : ∃ x, x = mn.getD i ByteArray.empty := ⟨_, rfl⟩
                  rw [← hx] at cx
                  clear hx hc hb
                  have cE := HL22.out.exp k1 k2 k3 k5 x
                  obtain ⟨y, hy⟩ : ∃ y, y = expL card on drop ml il (zipL mn mv) (zipL on1 ov) x := ⟨_, rfl⟩
                  have cC := covered_any w.heap.size g n cap got x y wr HL22.out.2.2.2.2.2.2.2 hn (.inr (by rw [hy]; exact HGW.out.2.2.1 x))
                  rw [← hy] at cE
                  clear hy
                  go_wp2_with fail
                  refine cE.mono ?_
                  rintro ex w7 ⟨rfl, rfl⟩
                  go_wp2_with fail
                  refine cC.mono ?_
                  rintro ex w7 ⟨rfl, rfl⟩
                  clear cE cC cx
                  go_wp2_with fail
                  go_roundw
                  case rel => exact ⟨i + 1, by omega, by go_num, HL22⟩
                  case measure => simp [intOf]; omega
                · have hlti : ¬ (i : Int) < (n3 : Int) := by omega
                  go_wp2_with fail
                  go_loopw [24] (fun vi wq => ∃ (i : Nat), i ≤ n2 ∧ vi = .int .i64 i ∧ Hid (LawW w wq card on drop r1 r2 r3 r4 r5 r6 n1 n2 n3 n5 e1 e2 e3 e4 e5 e6 ml il mn mv on1 ov g n cap got)) (fun vi _ => n2 - (intOf vi).toNat)
                  case atStart => exact ⟨0, Nat.zero_le _, rfl, HL22⟩
                  case round =>
                    clear HL22
                    obtain ⟨i, hin, rfl, HL24⟩ := hrel
                    by_cases hlt : i < n2
                    · have hlti : (i : Int) < (n2 : Int) := by omega
                      obtain ⟨b, off, hrr, hb, hc⟩ := HL24.out.2.2.1.2 i hlt
                      subst hrr
                      have cx := hc i hlt
                      obtain ⟨x, hx⟩ : ∃ x, x = il.getD i ByteArray.empty := ⟨_, rfl⟩
                      rw [← hx] at cx
                      clear hx hc hb
                      have cE := HL24.out.exp k1 k2 k3 k5 x
                      obtain ⟨y, hy⟩ : ∃ y, y = expL card on drop ml il (zipL mn mv) (zipL on1 ov) x := ⟨_, rfl⟩
                      have cC := covered_any w.heap.size g n cap got x y wr HL24.out.2.2.2.2.2.2.2 hn (.inr (by rw [hy]; exact HGW.out.2.2.1 x))
                      rw [← hy] at cE
                      clear hy
                      go_wp2_with fail
                      refine cE.mono ?_
                      rintro ex w7 ⟨rfl, rfl⟩
                      go_wp2_with fail
                      refine cC.mono ?_
                      rintro ex w7 ⟨rfl, rfl⟩
                      clear cE cC cx
                      go_wp2_with fail
                      go_roundw
                      case rel => exact ⟨i + 1, by omega, by go_num, HL24⟩
                      case measure => simp [intOf]; omega
                    · have hlti : ¬ (i : Int) < (n2 : Int) := by omega
                      go_wp2_with fail
                      go_ret
                      exact ⟨rfl, HL24.out.1⟩
end Go.Proofs.Qxb6600238a
