import Derived.Test.Qxb6600238aRl0
set_option linter.unusedVariables false
set_option linter.unusedSimpArgs false
set_option linter.unusedSectionVars false
namespace Go.Proofs.Qxb6600238a
open Go.Shelf Go.RowKit Go.Lib Go.Sort

theorem metric_list : metric.toList = [95, 95, 110, 97, 109, 101, 95, 95] := by rw [ByteArray.toList_eq]; rfl
/-- What resultLabels finds where it begins. -/
def RlPre (B : Nat) (w : World) (mb : Nat) (card : Int) (on : Bool) (mlp : Option Addr) (mln mlc : Nat) (ml : List ByteArray) (inp : Option Addr) (inn inc : Nat) (il : List ByteArray) (g1 n1 c1 : Nat) (many : List Lbl) (g2 n2 c2 : Nat) (one : List Lbl) : Prop :=
  mb < w.heap.size ∧ w.cell? ⟨mb, 0, none⟩ = some (.int .i64 card) ∧ w.cell? ⟨mb, 1, none⟩ = some (.bool on) ∧ w.cell? ⟨mb, 2, none⟩ = some (.slice mlp mln mlc) ∧ w.cell? ⟨mb, 3, none⟩ = some (.slice inp inn inc) ∧
  StrS w mlp mln ml ∧ StrS w inp inn il ∧ OwnL B w g1 n1 c1 many ∧ OwnL B w g2 n2 c2 one
theorem OwnL.lt {B : Nat} {w : World} {g n cap : Nat} {l : List Lbl} (h : OwnL B w g n cap l) : g < w.heap.size := by obtain ⟨_, _, h2, _⟩ := h.parts; exact h2
theorem RlPre.kept {B : Nat} {w w' : World} {mb : Nat} {card : Int} {on : Bool} {mlp : Option Addr} {mln mlc : Nat} {ml : List ByteArray} {inp : Option Addr} {inn inc : Nat} {il : List ByteArray} {g1 n1 c1 : Nat} {many : List Lbl} {g2 n2 c2 : Nat} {one : List Lbl}
    (h : RlPre B w mb card on mlp mln mlc ml inp inn inc il g1 n1 c1 many g2 n2 c2 one) (hb : Below w.heap.size w w') : RlPre B w' mb card on mlp mln mlc ml inp inn inc il g1 n1 c1 many g2 n2 c2 one := by
  obtain ⟨h1, h2, h3, h4, h5, h6, h7, h8, h9⟩ := h
  exact ⟨by have := hb.size; omega, by rw [cell_below hb h1]; exact h2, by rw [cell_below hb h1]; exact h3, by rw [cell_below hb h1]; exact h4, by rw [cell_below hb h1]; exact h5, h6.kept hb, h7.kept hb, h8.kept hb h8.lt, h9.kept hb h9.lt⟩

/-- What resultLabels gives. -/
def ResSpec (card : Int) (on drop : Bool) (ml il : List ByteArray) (many one got : List Lbl) : Prop :=
  (il = [] ∧ got = filt card on drop ml many) ∨ (il ≠ [] ∧ ∃ S, SortedN S ∧ Stab nm (filt card on drop ml many ++ il.map (fun t => (t, getL one t))) S ∧ got = keepTo S S.length)

theorem makeL (B : Nat) (w : World) (hB : B ≤ w.heap.size) (c : Nat) (hc : c ≤ 1048576) :
    ∃ w', (Instr.makeSlice 37 (.int .i64 0) (.int .i64 (c : Int))).run Try.prog w = .ok (.slice (some ⟨w.heap.size, 0, none⟩) 0 c) w' ∧ OwnL B w' w.heap.size 0 c [] ∧ Below B w w' := by
  obtain ⟨i0, hi, hz0, hz1, hz2⟩ := info_parts info41
  obtain ⟨w', h1, h2, h3⟩ := run_make_own (P := Try.prog) w B 37 41 i0 _ 2 Try.underlying37 hi hz0 hz1 .i64 .i64 c (by rw [hz2]; omega) (by unfold maxLen; omega) hB
  exact ⟨w', h1, h2, (Below.refl _ _).grown h3 hB (fun k hk => by cases hk)⟩

set_option maxHeartbeats 8000000 in
set_option maxRecDepth 1000000 in
theorem resLabels_any (B : Nat) (w : World) (mb : Nat) (card : Int) (on drop : Bool) (mlp : Option Addr) (mln mlc : Nat) (ml : List ByteArray) (inp : Option Addr) (inn inc : Nat) (il : List ByteArray) (g1 n1 c1 : Nat) (many : List Lbl) (g2 n2 c2 : Nat) (one : List Lbl)
    (h : RlPre B w mb card on mlp mln mlc ml inp inn inc il g1 n1 c1 many g2 n2 c2 one) (hone : SAsc one) (h1 : n1 ≤ 4096) (h2 : n2 ≤ 4096) (h3 : mln ≤ 4096) (h4 : inn ≤ 4096) :
    Calls Try.prog 33 #[.pointer (some ⟨mb, 0, none⟩), .slice (some ⟨g1, 0, none⟩) n1 c1, .slice (some ⟨g2, 0, none⟩) n2 c2, .bool drop] w fun e w' =>
      ∃ g' n' cap', e = .returned (.slice (some ⟨g', 0, none⟩) n' cap') ∧ ∃ got, OwnL w.heap.size w' g' n' cap' got ∧ ResSpec card on drop ml il many one got ∧ Below w.heap.size w w' := by
  obtain ⟨i0, hi, hz0, hz1, hz2⟩ := info_parts info41
  have HP : Aside _ := h
  have q3 := h.2.2.2.2.1
  obtain ⟨w0, hm, ho0, hb0⟩ := makeL w.heap.size w (Nat.le_refl _) (n1 + inn) (by omega)
  have hm' : (Instr.makeSlice 37 (.int .i64 0) (.int .i64 ((n1 : Int) + (inn : Int)))).run Try.prog w = .ok (.slice (some ⟨w.heap.size, 0, none⟩) 0 (n1 + inn)) w0 := by
    rw [← Int.natCast_add]; exact hm
  have H0 : Hid (Below w.heap.size w w0 ∧ OwnL w.heap.size w0 w.heap.size 0 (n1 + inn) (filt card on drop ml (many.take 0))) := ⟨hb0, ho0⟩
  have HML : Hid (many.length = n1) := h.2.2.2.2.2.2.2.1.len
  have HONE : Hid (SAsc one) := hone
  clear h hm ho0 hb0 hone
  go_enter Try.func33, Try.ntmps33
  go_wp2_with fail
  clear hm' q3
  obtain ⟨gz, hgz⟩ : ∃ gz, gz = w.heap.size := ⟨_, rfl⟩
  have H1 : Hid (Below w.heap.size w w0 ∧ OwnL w.heap.size w0 gz 0 (n1 + inn) (filt card on drop ml (many.take 0))) := by rw [hgz]; exact H0
  rw [← hgz]
  clear H0 hgz
  go_loopw [9, 26] (fun vo vi wq => ∃ (i go k co : Nat), i ≤ n1 ∧ k ≤ i ∧ vi = .int .i64 i ∧ vo = .slice (some ⟨go, 0, none⟩) k co ∧ Hid (Below w.heap.size w wq ∧ OwnL w.heap.size wq go k co (filt card on drop ml (many.take i)))) (fun _ vi _ => n1 - (intOf vi).toNat)
  case atStart => exact ⟨0, gz, 0, _, Nat.zero_le _, Nat.le_refl _, rfl, rfl, H1⟩
  case round =>
    clear H1
    obtain ⟨i, go, k, co, hin, hki, rfl, rfl, HR⟩ := hrel
    by_cases hlt : i < n1
    · have hlti : (i : Int) < (n1 : Int) := by omega
      obtain ⟨x, hx⟩ : ∃ x, x = many.getD i lblD := ⟨_, rfl⟩
      have HX : Hid (x = many.getD i lblD) := hx
      have HPR : Aside _ := RlPre.kept HP.out HR.out.1
      have cx := HPR.out.2.2.2.2.2.2.2.1.cell i (by rw [HML.out]; exact hlt)
      rw [← getD_eq many i (by rw [HML.out]; exact hlt), ← hx] at cx
      obtain ⟨cx1, cx2⟩ := cx
      have HT : Hid (many.take (i + 1) = many.take i ++ [many.getD i lblD]) := takeL_next many i (by rw [HML.out]; exact hlt)
      obtain ⟨x1, x2⟩ := x
      clear hx
      go_wp2_with fail
      have cb1 : (wr.alloc (.cells #[.string x1, .string x2] 41)).cell? ⟨wr.heap.size, 0, none⟩ = some (.string x1) := by simp
      have cb2 : (wr.alloc (.cells #[.string x1, .string x2] 41)).cell? ⟨wr.heap.size, 1, none⟩ = some (.string x2) := by simp
      have hbw : Below wr.heap.size wr (wr.alloc (.cells #[.string x1, .string x2] 41)) := (Below.refl _ _).alloc (Nat.le_refl _) _
      have HR2 : Hid (Below w.heap.size w (wr.alloc (.cells #[.string x1, .string x2] 41)) ∧ OwnL w.heap.size (wr.alloc (.cells #[.string x1, .string x2] 41)) go k co (filt card on drop ml (many.take i))) := ⟨HR.out.1.trans (hbw.mono HR.out.1.size), HR.out.2.kept hbw HR.out.2.lt⟩
      clear cx1 cx2 HR HPR hbw
      generalize wr.alloc (.cells #[.string x1, .string x2] 41) = w7 at cb1 cb2 HR2 ⊢
      generalize wr.heap.size = b7 at cb1 cb2 ⊢
      have HPC : Aside _ := RlPre.kept HP.out HR2.out.1
      have q0 := HPC.out.2.1
      have q1 := HPC.out.2.2.1
      have q2 := HPC.out.2.2.2.1
      have q3 := HPC.out.2.2.2.2.1
      have HCC : Aside (∀ nq, Calls Try.prog 36 #[.slice mlp mln mlc, .string x1] (w7.drewN nq) fun e w' => e = .returned (.bool (Lib.containsS ml x1)) ∧ w' = w7.drewN nq) := fun nq => contains_any mlp mln mlc ml x1 (w7.drewN nq) (HPC.out.2.2.2.2.2.1.kept (below_drewN _ _ _)) (by omega)
      cases drop with
      | true =>
        by_cases hmx : x1 = metric
        · have HD : Hid (dropped card on true ml x1 = true) := by rw [Hid]; unfold dropped; rw [decide_eq_true hmx]; rfl
          have hmx3 : (x1.toList == [95, 95, 110, 97, 109, 101, 95, 95]) = true := by rw [hmx, metric_list]; rfl
          clear hmx
          go_quiet (fail)
          have HR3 : Hid (Below w.heap.size w (w7.drewN nq) ∧ OwnL w.heap.size (w7.drewN nq) go k co (filt card on true ml (many.take i))) := ⟨HR2.out.1.trans (below_drewN _ w7 nq), HR2.out.2.kept (below_drewN _ w7 nq) HR2.out.2.lt⟩
          have cc1 : (w7.drewN nq).cell? ⟨b7, 0, none⟩ = some (.string x1) := cb1
          have cc2 : (w7.drewN nq).cell? ⟨b7, 1, none⟩ = some (.string x2) := cb2
          have hs8 : w.heap.size ≤ (w7.drewN nq).heap.size := by have := HR3.out.1.size; omega
          clear HR2 cb1 cb2 HPC q0 q1 q2 q3
          generalize w7.drewN nq = w8 at HR3 cc1 cc2 hs8 ⊢
          clear nq
          have HF : Hid (filt card on true ml (many.take (i + 1)) = filt card on true ml (many.take i)) := by rw [Hid, HT.out, filt_snoc, ← HX.out, if_pos HD.out, List.append_nil]
          go_wp2_with fail
          go_roundw
          case rel => exact ⟨i + 1, go, k, co, by omega, by omega, by go_num, rfl, HR3.out.1, by rw [HF.out]; exact HR3.out.2⟩
          case measure => simp [intOf]; omega
        · have hd0 : (true && decide (x1 = metric)) = false := by rw [decide_eq_false hmx]; rfl
          have hmx3 : (x1.toList == [95, 95, 110, 97, 109, 101, 95, 95]) = false := by rw [beq_eq_false_iff_ne, ← metric_list]; exact fun h => hmx (baInj h)
          clear hmx
          by_cases hcard : card = 0
          · subst hcard
            cases hm : Lib.containsS ml x1 with
            | true =>
              cases on with
              | true =>
                have HD : Hid (dropped 0 true true ml x1 = false) := by rw [Hid]; unfold dropped; rw [hm, hd0]; rfl
                have c36 := HCC.out
                rw [hm] at c36
                clear hm hd0
                go_quiet (first | (go_at_call 36; refine (c36 _).mono ?_; rintro e w' ⟨rfl, rfl⟩; exact ⟨rfl, _, rfl⟩))
                have HR3 : Hid (Below w.heap.size w (w7.drewN nq) ∧ OwnL w.heap.size (w7.drewN nq) go k co (filt 0 true true ml (many.take i))) := ⟨HR2.out.1.trans (below_drewN _ w7 nq), HR2.out.2.kept (below_drewN _ w7 nq) HR2.out.2.lt⟩
                have cc1 : (w7.drewN nq).cell? ⟨b7, 0, none⟩ = some (.string x1) := cb1
                have cc2 : (w7.drewN nq).cell? ⟨b7, 1, none⟩ = some (.string x2) := cb2
                have hs8 : w.heap.size ≤ (w7.drewN nq).heap.size := by have := HR3.out.1.size; omega
                clear HR2 cb1 cb2 HPC q0 q1 q2 q3
                generalize w7.drewN nq = w8 at HR3 cc1 cc2 hs8 ⊢
                clear nq
                have HF : Hid (filt 0 true true ml (many.take (i + 1)) = filt 0 true true ml (many.take i) ++ [(x1, x2)]) := by rw [Hid, HT.out, filt_snoc, ← HX.out, if_neg (by rw [HD.out]; decide)]
                go_wp2_with (at_builtin; refine wpList_append_lies _ rfl _ _ 37 rfl w.heap.size 41 i0 _ 2 32 Try.underlying37 hi hz0 hz1 hz2 rfl (by decide) _ _ _ rfl (HR3.out.2.alloc _) ⟨w8.heap.size, 0, none⟩ 1 1 [Value.string x1, Value.string x2] rfl rfl ?c1 ?c2 (by decide) ?c3 ?c4 ?c5 _ rfl ?_)
                case c1 =>
                  intro j u hj
                  match j, hj with
                  | 0, hj => simp at hj; subst hj; simp [Addr.add]
                  | 1, hj => simp at hj; subst hj; simp [Addr.add]
                case c2 =>
                  intro u hu
                  simp at hu
                  rcases hu with rfl | rfl <;> rfl
                case c3 => unfold maxLen; omega
                case c4 => omega
                case c5 => simp; omega
                intro go' co' w9 ho hg _ hlt9
                have HR4 : Hid (Below w.heap.size w w9 ∧ OwnL w.heap.size w9 go' (k + 1) co' (filt 0 true true ml (many.take (i + 1)))) := by
                  refine ⟨HR3.out.1.trans (((Below.refl _ _).alloc hs8 _).grown hg (by simp; omega) (fun k hk => (World.ownsRow.lt HR3.out.2 k hk).1)), ?_⟩
                  rw [HF.out]
                  exact OwnL.snoc ho
                clear ho hg HR3
                go_wp2_with fail
                go_roundw
                case rel => exact ⟨i + 1, go', k + 1, co', by omega, by omega, by go_num, rfl, HR4⟩
                case measure => simp [intOf]; omega
              | false =>
                have HD : Hid (dropped 0 false true ml x1 = true) := by rw [Hid]; unfold dropped; rw [hm, hd0]; rfl
                have c36 := HCC.out
                rw [hm] at c36
                clear hm hd0
                go_quiet (first | (go_at_call 36; refine (c36 _).mono ?_; rintro e w' ⟨rfl, rfl⟩; exact ⟨rfl, _, rfl⟩))
                have HR3 : Hid (Below w.heap.size w (w7.drewN nq) ∧ OwnL w.heap.size (w7.drewN nq) go k co (filt 0 false true ml (many.take i))) := ⟨HR2.out.1.trans (below_drewN _ w7 nq), HR2.out.2.kept (below_drewN _ w7 nq) HR2.out.2.lt⟩
                have cc1 : (w7.drewN nq).cell? ⟨b7, 0, none⟩ = some (.string x1) := cb1
                have cc2 : (w7.drewN nq).cell? ⟨b7, 1, none⟩ = some (.string x2) := cb2
                have hs8 : w.heap.size ≤ (w7.drewN nq).heap.size := by have := HR3.out.1.size; omega
                clear HR2 cb1 cb2 HPC q0 q1 q2 q3
                generalize w7.drewN nq = w8 at HR3 cc1 cc2 hs8 ⊢
                clear nq
                have HF : Hid (filt 0 false true ml (many.take (i + 1)) = filt 0 false true ml (many.take i)) := by rw [Hid, HT.out, filt_snoc, ← HX.out, if_pos HD.out, List.append_nil]
                go_wp2_with fail
                go_roundw
                case rel => exact ⟨i + 1, go, k, co, by omega, by omega, by go_num, rfl, HR3.out.1, by rw [HF.out]; exact HR3.out.2⟩
                case measure => simp [intOf]; omega
            | false =>
              cases on with
              | true =>
                have HD : Hid (dropped 0 true true ml x1 = true) := by rw [Hid]; unfold dropped; rw [hm, hd0]; rfl
                have c36 := HCC.out
                rw [hm] at c36
                clear hm hd0
                go_quiet (first | (go_at_call 36; refine (c36 _).mono ?_; rintro e w' ⟨rfl, rfl⟩; exact ⟨rfl, _, rfl⟩))
                have HR3 : Hid (Below w.heap.size w (w7.drewN nq) ∧ OwnL w.heap.size (w7.drewN nq) go k co (filt 0 true true ml (many.take i))) := ⟨HR2.out.1.trans (below_drewN _ w7 nq), HR2.out.2.kept (below_drewN _ w7 nq) HR2.out.2.lt⟩
                have cc1 : (w7.drewN nq).cell? ⟨b7, 0, none⟩ = some (.string x1) := cb1
                have cc2 : (w7.drewN nq).cell? ⟨b7, 1, none⟩ = some (.string x2) := cb2
                have hs8 : w.heap.size ≤ (w7.drewN nq).heap.size := by have := HR3.out.1.size; omega
                clear HR2 cb1 cb2 HPC q0 q1 q2 q3
                generalize w7.drewN nq = w8 at HR3 cc1 cc2 hs8 ⊢
                clear nq
                have HF : Hid (filt 0 true true ml (many.take (i + 1)) = filt 0 true true ml (many.take i)) := by rw [Hid, HT.out, filt_snoc, ← HX.out, if_pos HD.out, List.append_nil]
                go_wp2_with fail
                go_roundw
                case rel => exact ⟨i + 1, go, k, co, by omega, by omega, by go_num, rfl, HR3.out.1, by rw [HF.out]; exact HR3.out.2⟩
                case measure => simp [intOf]; omega
              | false =>
                have HD : Hid (dropped 0 false true ml x1 = false) := by rw [Hid]; unfold dropped; rw [hm, hd0]; rfl
                have c36 := HCC.out
                rw [hm] at c36
                clear hm hd0
                go_quiet (first | (go_at_call 36; refine (c36 _).mono ?_; rintro e w' ⟨rfl, rfl⟩; exact ⟨rfl, _, rfl⟩))
                have HR3 : Hid (Below w.heap.size w (w7.drewN nq) ∧ OwnL w.heap.size (w7.drewN nq) go k co (filt 0 false true ml (many.take i))) := ⟨HR2.out.1.trans (below_drewN _ w7 nq), HR2.out.2.kept (below_drewN _ w7 nq) HR2.out.2.lt⟩
                have cc1 : (w7.drewN nq).cell? ⟨b7, 0, none⟩ = some (.string x1) := cb1
                have cc2 : (w7.drewN nq).cell? ⟨b7, 1, none⟩ = some (.string x2) := cb2
                have hs8 : w.heap.size ≤ (w7.drewN nq).heap.size := by have := HR3.out.1.size; omega
                clear HR2 cb1 cb2 HPC q0 q1 q2 q3
                generalize w7.drewN nq = w8 at HR3 cc1 cc2 hs8 ⊢
                clear nq
                have HF : Hid (filt 0 false true ml (many.take (i + 1)) = filt 0 false true ml (many.take i) ++ [(x1, x2)]) := by rw [Hid, HT.out, filt_snoc, ← HX.out, if_neg (by rw [HD.out]; decide)]
                go_wp2_with (at_builtin; refine wpList_append_lies _ rfl _ _ 37 rfl w.heap.size 41 i0 _ 2 32 Try.underlying37 hi hz0 hz1 hz2 rfl (by decide) _ _ _ rfl (HR3.out.2.alloc _) ⟨w8.heap.size, 0, none⟩ 1 1 [Value.string x1, Value.string x2] rfl rfl ?c1 ?c2 (by decide) ?c3 ?c4 ?c5 _ rfl ?_)
                case c1 =>
                  intro j u hj
                  match j, hj with
                  | 0, hj => simp at hj; subst hj; simp [Addr.add]
                  | 1, hj => simp at hj; subst hj; simp [Addr.add]
                case c2 =>
                  intro u hu
                  simp at hu
                  rcases hu with rfl | rfl <;> rfl
                case c3 => unfold maxLen; omega
                case c4 => omega
                case c5 => simp; omega
                intro go' co' w9 ho hg _ hlt9
                have HR4 : Hid (Below w.heap.size w w9 ∧ OwnL w.heap.size w9 go' (k + 1) co' (filt 0 false true ml (many.take (i + 1)))) := by
                  refine ⟨HR3.out.1.trans (((Below.refl _ _).alloc hs8 _).grown hg (by simp; omega) (fun k hk => (World.ownsRow.lt HR3.out.2 k hk).1)), ?_⟩
                  rw [HF.out]
                  exact OwnL.snoc ho
                clear ho hg HR3
                go_wp2_with fail
                go_roundw
                case rel => exact ⟨i + 1, go', k + 1, co', by omega, by omega, by go_num, rfl, HR4⟩
                case measure => simp [intOf]; omega
          · have hc0 : (card == 0) = false := by rw [beq_eq_false_iff_ne]; exact hcard
            have HD : Hid (dropped card on true ml x1 = false) := by rw [Hid]; unfold dropped; rw [hd0, decide_eq_false hcard]; rfl
            clear hd0 hcard
            go_quiet (fail)
            have HR3 : Hid (Below w.heap.size w (w7.drewN nq) ∧ OwnL w.heap.size (w7.drewN nq) go k co (filt card on true ml (many.take i))) := ⟨HR2.out.1.trans (below_drewN _ w7 nq), HR2.out.2.kept (below_drewN _ w7 nq) HR2.out.2.lt⟩
            have cc1 : (w7.drewN nq).cell? ⟨b7, 0, none⟩ = some (.string x1) := cb1
            have cc2 : (w7.drewN nq).cell? ⟨b7, 1, none⟩ = some (.string x2) := cb2
            have hs8 : w.heap.size ≤ (w7.drewN nq).heap.size := by have := HR3.out.1.size; omega
            clear HR2 cb1 cb2 HPC q0 q1 q2 q3
            generalize w7.drewN nq = w8 at HR3 cc1 cc2 hs8 ⊢
            clear nq
            have HF : Hid (filt card on true ml (many.take (i + 1)) = filt card on true ml (many.take i) ++ [(x1, x2)]) := by rw [Hid, HT.out, filt_snoc, ← HX.out, if_neg (by rw [HD.out]; decide)]
            go_wp2_with (at_builtin; refine wpList_append_lies _ rfl _ _ 37 rfl w.heap.size 41 i0 _ 2 32 Try.underlying37 hi hz0 hz1 hz2 rfl (by decide) _ _ _ rfl (HR3.out.2.alloc _) ⟨w8.heap.size, 0, none⟩ 1 1 [Value.string x1, Value.string x2] rfl rfl ?c1 ?c2 (by decide) ?c3 ?c4 ?c5 _ rfl ?_)
            case c1 =>
              intro j u hj
              match j, hj with
              | 0, hj => simp at hj; subst hj; simp [Addr.add]
              | 1, hj => simp at hj; subst hj; simp [Addr.add]
            case c2 =>
              intro u hu
              simp at hu
              rcases hu with rfl | rfl <;> rfl
            case c3 => unfold maxLen; omega
            case c4 => omega
            case c5 => simp; omega
            intro go' co' w9 ho hg _ hlt9
            have HR4 : Hid (Below w.heap.size w w9 ∧ OwnL w.heap.size w9 go' (k + 1) co' (filt card on true ml (many.take (i + 1)))) := by
              refine ⟨HR3.out.1.trans (((Below.refl _ _).alloc hs8 _).grown hg (by simp; omega) (fun k hk => (World.ownsRow.lt HR3.out.2 k hk).1)), ?_⟩
              rw [HF.out]
              exact OwnL.snoc ho
            clear ho hg HR3
            go_wp2_with fail
            go_roundw
            case rel => exact ⟨i + 1, go', k + 1, co', by omega, by omega, by go_num, rfl, HR4⟩
            case measure => simp [intOf]; omega
      | false =>
        have hd0 : (false && decide (x1 = metric)) = false := rfl
        by_cases hcard : card = 0
        · subst hcard
          cases hm : Lib.containsS ml x1 with
          | true =>
            cases on with
            | true =>
              have HD : Hid (dropped 0 true false ml x1 = false) := by rw [Hid]; unfold dropped; rw [hm, hd0]; rfl
              have c36 := HCC.out
              rw [hm] at c36
              clear hm hd0
              go_quiet (first | (go_at_call 36; refine (c36 _).mono ?_; rintro e w' ⟨rfl, rfl⟩; exact ⟨rfl, _, rfl⟩))
              have HR3 : Hid (Below w.heap.size w (w7.drewN nq) ∧ OwnL w.heap.size (w7.drewN nq) go k co (filt 0 true false ml (many.take i))) := ⟨HR2.out.1.trans (below_drewN _ w7 nq), HR2.out.2.kept (below_drewN _ w7 nq) HR2.out.2.lt⟩
              have cc1 : (w7.drewN nq).cell? ⟨b7, 0, none⟩ = some (.string x1) := cb1
              have cc2 : (w7.drewN nq).cell? ⟨b7, 1, none⟩ = some (.string x2) := cb2
              have hs8 : w.heap.size ≤ (w7.drewN nq).heap.size := by have := HR3.out.1.size; omega
              clear HR2 cb1 cb2 HPC q0 q1 q2 q3
              generalize w7.drewN nq = w8 at HR3 cc1 cc2 hs8 ⊢
              clear nq
              have HF : Hid (filt 0 true false ml (many.take (i + 1)) = filt 0 true false ml (many.take i) ++ [(x1, x2)]) := by rw [Hid, HT.out, filt_snoc, ← HX.out, if_neg (by rw [HD.out]; decide)]
              go_wp2_with (at_builtin; refine wpList_append_lies _ rfl _ _ 37 rfl w.heap.size 41 i0 _ 2 32 Try.underlying37 hi hz0 hz1 hz2 rfl (by decide) _ _ _ rfl (HR3.out.2.alloc _) ⟨w8.heap.size, 0, none⟩ 1 1 [Value.string x1, Value.string x2] rfl rfl ?c1 ?c2 (by decide) ?c3 ?c4 ?c5 _ rfl ?_)
              case c1 =>
                intro j u hj
                match j, hj with
                | 0, hj => simp at hj; subst hj; simp [Addr.add]
                | 1, hj => simp at hj; subst hj; simp [Addr.add]
              case c2 =>
                intro u hu
                simp at hu
                rcases hu with rfl | rfl <;> rfl
              case c3 => unfold maxLen; omega
              case c4 => omega
              case c5 => simp; omega
              intro go' co' w9 ho hg _ hlt9
              have HR4 : Hid (Below w.heap.size w w9 ∧ OwnL w.heap.size w9 go' (k + 1) co' (filt 0 true false ml (many.take (i + 1)))) := by
                refine ⟨HR3.out.1.trans (((Below.refl _ _).alloc hs8 _).grown hg (by simp; omega) (fun k hk => (World.ownsRow.lt HR3.out.2 k hk).1)), ?_⟩
                rw [HF.out]
                exact OwnL.snoc ho
              clear ho hg HR3
              go_wp2_with fail
              go_roundw
              case rel => exact ⟨i + 1, go', k + 1, co', by omega, by omega, by go_num, rfl, HR4⟩
              case measure => simp [intOf]; omega
            | false =>
              have HD : Hid (dropped 0 false false ml x1 = true) := by rw [Hid]; unfold dropped; rw [hm, hd0]; rfl
              have c36 := HCC.out
              rw [hm] at c36
              clear hm hd0
              go_quiet (first | (go_at_call 36; refine (c36 _).mono ?_; rintro e w' ⟨rfl, rfl⟩; exact ⟨rfl, _, rfl⟩))
              have HR3 : Hid (Below w.heap.size w (w7.drewN nq) ∧ OwnL w.heap.size (w7.drewN nq) go k co (filt 0 false false ml (many.take i))) := ⟨HR2.out.1.trans (below_drewN _ w7 nq), HR2.out.2.kept (below_drewN _ w7 nq) HR2.out.2.lt⟩
              have cc1 : (w7.drewN nq).cell? ⟨b7, 0, none⟩ = some (.string x1) := cb1
              have cc2 : (w7.drewN nq).cell? ⟨b7, 1, none⟩ = some (.string x2) := cb2
              have hs8 : w.heap.size ≤ (w7.drewN nq).heap.size := by have := HR3.out.1.size; omega
              clear HR2 cb1 cb2 HPC q0 q1 q2 q3
              generalize w7.drewN nq = w8 at HR3 cc1 cc2 hs8 ⊢
              clear nq
              have HF : Hid (filt 0 false false ml (many.take (i + 1)) = filt 0 false false ml (many.take i)) := by rw [Hid, HT.out, filt_snoc, ← HX.out, if_pos HD.out, List.append_nil]
              go_wp2_with fail
              go_roundw
              case rel => exact ⟨i + 1, go, k, co, by omega, by omega, by go_num, rfl, HR3.out.1, by rw [HF.out]; exact HR3.out.2⟩
              case measure => simp [intOf]; omega
          | false =>
            cases on with
            | true =>
              have HD : Hid (dropped 0 true false ml x1 = true) := by rw [Hid]; unfold dropped; rw [hm, hd0]; rfl
              have c36 := HCC.out
              rw [hm] at c36
              clear hm hd0
              go_quiet (first | (go_at_call 36; refine (c36 _).mono ?_; rintro e w' ⟨rfl, rfl⟩; exact ⟨rfl, _, rfl⟩))
              have HR3 : Hid (Below w.heap.size w (w7.drewN nq) ∧ OwnL w.heap.size (w7.drewN nq) go k co (filt 0 true false ml (many.take i))) := ⟨HR2.out.1.trans (below_drewN _ w7 nq), HR2.out.2.kept (below_drewN _ w7 nq) HR2.out.2.lt⟩
              have cc1 : (w7.drewN nq).cell? ⟨b7, 0, none⟩ = some (.string x1) := cb1
              have cc2 : (w7.drewN nq).cell? ⟨b7, 1, none⟩ = some (.string x2) := cb2
              have hs8 : w.heap.size ≤ (w7.drewN nq).heap.size := by have := HR3.out.1.size; omega
              clear HR2 cb1 cb2 HPC q0 q1 q2 q3
              generalize w7.drewN nq = w8 at HR3 cc1 cc2 hs8 ⊢
              clear nq
              have HF : Hid (filt 0 true false ml (many.take (i + 1)) = filt 0 true false ml (many.take i)) := by rw [Hid, HT.out, filt_snoc, ← HX.out, if_pos HD.out, List.append_nil]
              go_wp2_with fail
              go_roundw
              case rel => exact ⟨i + 1, go, k, co, by omega, by omega, by go_num, rfl, HR3.out.1, by rw [HF.out]; exact HR3.out.2⟩
              case measure => simp [intOf]; omega
            | false =>
              have HD : Hid (dropped 0 false false ml x1 = false) := by rw [Hid]; unfold dropped; rw [hm, hd0]; rfl
              have c36 := HCC.out
              rw [hm] at c36
              clear hm hd0
              go_quiet (first | (go_at_call 36; refine (c36 _).mono ?_; rintro e w' ⟨rfl, rfl⟩; exact ⟨rfl, _, rfl⟩))
              have HR3 : Hid (Below w.heap.size w (w7.drewN nq) ∧ OwnL w.heap.size (w7.drewN nq) go k co (filt 0 false false ml (many.take i))) := ⟨HR2.out.1.trans (below_drewN _ w7 nq), HR2.out.2.kept (below_drewN _ w7 nq) HR2.out.2.lt⟩
              have cc1 : (w7.drewN nq).cell? ⟨b7, 0, none⟩ = some (.string x1) := cb1
              have cc2 : (w7.drewN nq).cell? ⟨b7, 1, none⟩ = some (.string x2) := cb2
              have hs8 : w.heap.size ≤ (w7.drewN nq).heap.size := by have := HR3.out.1.size; omega
              clear HR2 cb1 cb2 HPC q0 q1 q2 q3
              generalize w7.drewN nq = w8 at HR3 cc1 cc2 hs8 ⊢
              clear nq
              have HF : Hid (filt 0 false false ml (many.take (i + 1)) = filt 0 false false ml (many.take i) ++ [(x1, x2)]) := by rw [Hid, HT.out, filt_snoc, ← HX.out, if_neg (by rw [HD.out]; decide)]
              go_wp2_with (at_builtin; refine wpList_append_lies _ rfl _ _ 37 rfl w.heap.size 41 i0 _ 2 32 Try.underlying37 hi hz0 hz1 hz2 rfl (by decide) _ _ _ rfl (HR3.out.2.alloc _) ⟨w8.heap.size, 0, none⟩ 1 1 [Value.string x1, Value.string x2] rfl rfl ?c1 ?c2 (by decide) ?c3 ?c4 ?c5 _ rfl ?_)
              case c1 =>
                intro j u hj
                match j, hj with
                | 0, hj => simp at hj; subst hj; simp [Addr.add]
                | 1, hj => simp at hj; subst hj; simp [Addr.add]
              case c2 =>
                intro u hu
                simp at hu
                rcases hu with rfl | rfl <;> rfl
              case c3 => unfold maxLen; omega
              case c4 => omega
              case c5 => simp; omega
              intro go' co' w9 ho hg _ hlt9
              have HR4 : Hid (Below w.heap.size w w9 ∧ OwnL w.heap.size w9 go' (k + 1) co' (filt 0 false false ml (many.take (i + 1)))) := by
                refine ⟨HR3.out.1.trans (((Below.refl _ _).alloc hs8 _).grown hg (by simp; omega) (fun k hk => (World.ownsRow.lt HR3.out.2 k hk).1)), ?_⟩
                rw [HF.out]
                exact OwnL.snoc ho
              clear ho hg HR3
              go_wp2_with fail
              go_roundw
              case rel => exact ⟨i + 1, go', k + 1, co', by omega, by omega, by go_num, rfl, HR4⟩
              case measure => simp [intOf]; omega
        · have hc0 : (card == 0) = false := by rw [beq_eq_false_iff_ne]; exact hcard
          have HD : Hid (dropped card on false ml x1 = false) := by rw [Hid]; unfold dropped; rw [hd0, decide_eq_false hcard]; rfl
          clear hd0 hcard
          go_quiet (fail)
          have HR3 : Hid (Below w.heap.size w (w7.drewN nq) ∧ OwnL w.heap.size (w7.drewN nq) go k co (filt card on false ml (many.take i))) := ⟨HR2.out.1.trans (below_drewN _ w7 nq), HR2.out.2.kept (below_drewN _ w7 nq) HR2.out.2.lt⟩
          have cc1 : (w7.drewN nq).cell? ⟨b7, 0, none⟩ = some (.string x1) := cb1
          have cc2 : (w7.drewN nq).cell? ⟨b7, 1, none⟩ = some (.string x2) := cb2
          have hs8 : w.heap.size ≤ (w7.drewN nq).heap.size := by have := HR3.out.1.size; omega
          clear HR2 cb1 cb2 HPC q0 q1 q2 q3
          generalize w7.drewN nq = w8 at HR3 cc1 cc2 hs8 ⊢
          clear nq
          have HF : Hid (filt card on false ml (many.take (i + 1)) = filt card on false ml (many.take i) ++ [(x1, x2)]) := by rw [Hid, HT.out, filt_snoc, ← HX.out, if_neg (by rw [HD.out]; decide)]
          go_wp2_with (at_builtin; refine wpList_append_lies _ rfl _ _ 37 rfl w.heap.size 41 i0 _ 2 32 Try.underlying37 hi hz0 hz1 hz2 rfl (by decide) _ _ _ rfl (HR3.out.2.alloc _) ⟨w8.heap.size, 0, none⟩ 1 1 [Value.string x1, Value.string x2] rfl rfl ?c1 ?c2 (by decide) ?c3 ?c4 ?c5 _ rfl ?_)
          case c1 =>
            intro j u hj
            match j, hj with
            | 0, hj => simp at hj; subst hj; simp [Addr.add]
            | 1, hj => simp at hj; subst hj; simp [Addr.add]
          case c2 =>
            intro u hu
            simp at hu
            rcases hu with rfl | rfl <;> rfl
          case c3 => unfold maxLen; omega
          case c4 => omega
          case c5 => simp; omega
          intro go' co' w9 ho hg _ hlt9
          have HR4 : Hid (Below w.heap.size w w9 ∧ OwnL w.heap.size w9 go' (k + 1) co' (filt card on false ml (many.take (i + 1)))) := by
            refine ⟨HR3.out.1.trans (((Below.refl _ _).alloc hs8 _).grown hg (by simp; omega) (fun k hk => (World.ownsRow.lt HR3.out.2 k hk).1)), ?_⟩
            rw [HF.out]
            exact OwnL.snoc ho
          clear ho hg HR3
          go_wp2_with fail
          go_roundw
          case rel => exact ⟨i + 1, go', k + 1, co', by omega, by omega, by go_num, rfl, HR4⟩
          case measure => simp [intOf]; omega
    · have hie : i = n1 := by omega
      have HR2 : Hid (Below w.heap.size w wr ∧ OwnL w.heap.size wr go k co (filt card on drop ml many)) := by
        have := HR.out
        rw [hie, ← HML.out, List.take_length] at this
        exact this
      have HPR : Aside (RlPre B wr mb card on mlp mln mlc ml inp inn inc il g1 n1 c1 many g2 n2 c2 one) := RlPre.kept HP.out HR.out.1
      have hk1 : k ≤ n1 := by omega
      have q3 := HPR.out.2.2.2.2.1
      have hlti : ¬ (i : Int) < (n1 : Int) := by omega
      clear HR hie
      rcases Nat.eq_zero_or_pos inn with hz | hpos
      · have hzi : ((inn : Int) == 0) = true := by rw [hz]; rfl
        have hzj : (inn : Int) = 0 := by omega
        have HRS : Hid (ResSpec card on drop ml il many one (filt card on drop ml many)) := .inl ⟨List.eq_nil_of_length_eq_zero (by rw [HPR.out.2.2.2.2.2.2.1.1]; exact hz), rfl⟩
        clear hz
        go_wp2_with fail
        go_ret
        exact ⟨go, k, co, rfl, _, HR2.out.2, HRS.out, HR2.out.1⟩
      · have hzi : ((inn : Int) == 0) = false := by rw [beq_eq_false_iff_ne]; omega
        obtain ⟨bi, oi, rfl, hbi, hci⟩ := HP.out.2.2.2.2.2.2.1.2 0 hpos
        have HLI : Hid (il.length = inn) := HPR.out.2.2.2.2.2.2.1.1
        have HR3 : Hid (Below w.heap.size w wr ∧ OwnL w.heap.size wr go k co (filt card on drop ml many ++ (il.take 0).map (fun t => (t, getL one t)))) := ⟨HR2.out.1, by simpa using HR2.out.2⟩
        have HCI : Aside _ := hci
        have HO2 : Hid (OwnL B w g2 n2 c2 one) := HP.out.2.2.2.2.2.2.2.2
        clear HR2 hci HPR
        go_wp2_with fail
        go_loopw [9, 76] (fun vo vi wq => ∃ (i go k co : Nat), i ≤ inn ∧ k ≤ n1 + i ∧ vi = .int .i64 i ∧ vo = .slice (some ⟨go, 0, none⟩) k co ∧ Hid (Below w.heap.size w wq ∧ OwnL w.heap.size wq go k co (filt card on drop ml many ++ (il.take i).map (fun t => (t, getL one t))))) (fun _ vi _ => inn - (intOf vi).toNat)
        case atStart => exact ⟨0, go, k, co, Nat.zero_le _, by omega, rfl, rfl, HR3⟩
        case round =>
          clear HR3
          rename_i hin0 hki0 _ _ _ _ _ _
          obtain ⟨i, go, k, co, hin, hki, rfl, rfl, HR⟩ := hrel
          have hs8 : w.heap.size ≤ wr.heap.size := HR.out.1.size
          by_cases hlt2 : i < inn
          · have hlti2 : (i : Int) < (inn : Int) := by omega
            obtain ⟨x, hx⟩ : ∃ x, x = il.getD i ByteArray.empty := ⟨_, rfl⟩
            have cx := HCI.out i hlt2
            rw [← cell_below HR.out.1 hbi, ← hx] at cx
            have HT : Hid (il.take (i + 1) = il.take i ++ [x]) := by rw [Hid, hx]; exact takeS_next il i (by rw [HLI.out]; exact hlt2)
            have c := get_any B g2 n2 c2 one HONE.out x wr (HO2.out.kept HR.out.1 HO2.out.lt) (by omega)
            have HN : Hid (filt card on drop ml many ++ (il.take (i + 1)).map (fun t => (t, getL one t)) = filt card on drop ml many ++ (il.take i).map (fun t => (t, getL one t)) ++ [(x, getL one x)]) := by
              rw [Hid, HT.out, List.map_append, List.append_assoc]; rfl
            obtain ⟨y, hy⟩ : ∃ y, y = getL one x := ⟨_, rfl⟩
            rw [← hy] at c HN
            clear hx HT hy
            go_wp2_with fail
            refine c.mono ?_
            rintro e w2 ⟨rfl, hb2⟩
            have HR4 : Hid (Below w.heap.size w w2 ∧ OwnL w.heap.size w2 go k co (filt card on drop ml many ++ (il.take i).map (fun t => (t, getL one t)))) := ⟨HR.out.1.trans (hb2.mono hs8), HR.out.2.kept hb2 HR.out.2.lt⟩
            have hs9 : w.heap.size ≤ w2.heap.size := HR4.out.1.size
            clear c hb2 HR cx
            go_wp2_with (at_builtin; refine wpList_append_lies _ rfl _ _ 37 rfl w.heap.size 41 i0 _ 2 32 Try.underlying37 hi hz0 hz1 hz2 rfl (by decide) _ _ _ rfl (HR4.out.2.alloc _) ⟨w2.heap.size, 0, none⟩ 1 1 [Value.string x, Value.string y] rfl rfl ?c1 ?c2 (by decide) ?c3 ?c4 ?c5 _ rfl ?_)
            case c1 =>
              intro j u hj
              match j, hj with
              | 0, hj => simp at hj; subst hj; simp [Addr.add]
              | 1, hj => simp at hj; subst hj; simp [Addr.add]
            case c2 =>
              intro u hu
              simp at hu
              rcases hu with rfl | rfl <;> rfl
            case c3 => unfold maxLen; omega
            case c4 => omega
            case c5 => simp; omega
            intro go' co' w9 ho hg hown9 hlt9
            have HR5 : Hid (Below w.heap.size w w9 ∧ OwnL w.heap.size w9 go' (k + 1) co' (filt card on drop ml many ++ (il.take (i + 1)).map (fun t => (t, getL one t)))) := by
              refine ⟨HR4.out.1.trans (((Below.refl _ _).alloc hs9 _).grown hg (by simp; omega) (fun k hk => (World.ownsRow.lt HR4.out.2 k hk).1)), ?_⟩
              rw [HN.out]
              first
                | exact OwnL.snoc ho
                | (rw [← List.map_take] at ho; exact OwnL.snoc ho)
            clear ho hg HR4
            go_wp2_with fail
            go_roundw
            case rel => exact ⟨i + 1, go', k + 1, co', by omega, by omega, by go_num, rfl, HR5⟩
            case measure => simp [intOf]; omega
          · have hlti2 : ¬ (i : Int) < (inn : Int) := by omega
            have HR4 : Hid (Below w.heap.size w wr ∧ OwnL w.heap.size wr go k co (filt card on drop ml many ++ il.map (fun t => (t, getL one t)))) := by
              have := HR.out
              rw [show i = il.length by rw [HLI.out]; omega, List.take_length] at this
              exact this
            have hk0 : 0 < k := by
              have := HR4.out.2.len
              rw [List.length_append, List.length_map, HLI.out] at this
              omega
            have HIL : Hid (il ≠ []) := by
              intro e
              have := HLI.out
              rw [e] at this
              simp at this
              omega
            have c := new_any w.heap.size go k co _ wr HR4.out.2 (by omega) hk0
            clear HR
            go_wp2_with fail
            refine c.mono ?_
            rintro e w2 ⟨S, g', cap', hS1, hS2, hS3, rfl, ho, hb⟩
            have HF : Hid (∃ got, OwnL w.heap.size w2 g' (keepTo S k).length cap' got ∧ ResSpec card on drop ml il many one got ∧ Below w.heap.size w w2) := by
              refine ⟨keepTo S k, ?_, .inr ⟨HIL.out, S, hS1, hS2, by rw [hS3]⟩, HR4.out.1.trans (hb.mono hs8)⟩
              obtain ⟨cur, r1, r2, r3, r4, r5, r6, r7⟩ := OwnL.parts ho
              exact OwnL.mk rfl (by omega) r3 r4 r5 r6 r7
            clear hS1 hS2 hS3 ho hb c
            go_wp2_with fail
            go_ret
            exact ⟨g', _, cap', rfl, HF.out⟩
end Go.Proofs.Qxb6600238a
