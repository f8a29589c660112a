import Derived.Test.Qxb6600238aFn2
import Derived.Laws.OwnMore
import Derived.BigRegion
set_option linter.unusedVariables false
set_option linter.unusedSimpArgs false
set_option linter.unusedSectionVars false
namespace Go.Proofs.Qxb6600238a
open Go.Shelf Go.RowKit Go.Lib Go.Sort

theorem info9 : (Try.prog.info? 9).map (fun i => (i.zero, i.size, i.bytes)) = some (some (.string ByteArray.empty), 1, 16) := by kernel_rfl

/-- A row of cells in the making: of type e, n cells, of which those below i are as f says. -/
def MkRel (B : Nat) (w0 wq : World) (g e n i : Nat) (f : Nat → Value) : Prop :=
  Below B w0 wq ∧ B ≤ g ∧ ∃ cur : Array Value, wq.heap[g]? = some (.cells cur e (0, 0)) ∧ cur.size = n ∧ ∀ j, j < i → cur[j]? = some (f j)
theorem MkRel.lt {B : Nat} {w0 w : World} {g e n i : Nat} {f : Nat → Value} (h : MkRel B w0 w g e n i f) : g < w.heap.size := by
  obtain ⟨_, _, cur, hg, _⟩ := h
  rcases Nat.lt_or_ge g w.heap.size with h' | h'
  · exact h'
  · rw [Array.getElem?_eq_none h'] at hg; cases hg
theorem MkRel.room {B : Nat} {w0 w : World} {g e n i : Nat} {f : Nat → Value} (h : MkRel B w0 w g e n i f) (j : Nat) (hj : j < n) : (∃ v, w.cell? ⟨g, j, none⟩ = some v) ∧ w.frozen? ⟨g, j, none⟩ = false := by
  obtain ⟨_, _, cur, hg, hs, _⟩ := h
  refine ⟨⟨cur[j]'(by omega), ?_⟩, by simp [World.frozen?, hg]⟩
  simp only [World.cell?, hg, Option.isSome_none, Bool.false_eq_true, if_false]
  exact Array.getElem?_eq_getElem (by omega)
theorem MkRel.store {B : Nat} {w0 w : World} {g e n i : Nat} {f : Nat → Value} (h : MkRel B w0 w g e n i f) (hi : i < n) (v : Value) (hv : v = f i) : MkRel B w0 (w.setCell ⟨g, i, none⟩ v) g e n (i + 1) f := by
  obtain ⟨h0, h1, cur, hg, hs, hc⟩ := h
  refine ⟨h0.setCell (p := ⟨g, i, none⟩) h1 v, h1, cur.setIfInBounds i v, ?_, by simpa using hs, ?_⟩
  · rw [setCell_eq]
    simp [mapBlock, Array.getElem?_modify, hg, onCells]
  · intro j hj
    rcases Nat.lt_or_ge j i with h' | h'
    · rw [Array.getElem?_setIfInBounds_ne (by omega)]
      exact hc j h'
    · have : j = i := by omega
      subst this
      rw [Array.getElem?_setIfInBounds_self_of_lt (by omega), hv]
theorem MkRel.below {B : Nat} {w0 w w' : World} {g e n i : Nat} {f : Nat → Value} (h : MkRel B w0 w g e n i f) (hb : Below w.heap.size w w') : MkRel B w0 w' g e n i f := by
  have hlt := h.lt
  obtain ⟨h0, h1, cur, hg, hs, hc⟩ := h
  exact ⟨h0.trans (hb.mono (by omega)), h1, cur, by rw [hb.block g hlt]; exact hg, hs, hc⟩
theorem make_rel (t e size bytes : Nat) (z : Value) (hinfo : (Try.prog.info? e).map (fun i => (i.zero, i.size, i.bytes)) = some (some z, size, bytes)) (ht : Try.prog.underlying t = some (.slice e)) (w : World) (n : Nat) (hn : n ≤ 4096) (hby : bytes ≤ 64) (f : Nat → Value) :
    ∃ w', (Instr.makeSlice t (.int .i64 (n : Int)) (.int .i64 (n : Int))).run Try.prog w = .ok (.slice (some ⟨w.heap.size, 0, none⟩) n n) w' ∧ MkRel w.heap.size w w' w.heap.size e (n * size) 0 f := by
  obtain ⟨i0, hi, hz0, hz1, hz2⟩ := info_parts hinfo
  have hb : i0.bytes * n ≤ 281474976710656 := by rw [hz2]; exact Nat.le_trans (Nat.mul_le_mul hby hn) (by decide)
  obtain ⟨w', h1, h2, h3⟩ := run_make_full (P := Try.prog) w w.heap.size t e i0 z size ht hi hz0 hz1 .i64 .i64 n hb (by unfold maxLen; omega) (Nat.le_refl _)
  refine ⟨w', h1, (Below.refl _ _).grown h3 (Nat.le_refl _) (fun k hk => by cases hk), Nat.le_refl _, ?_⟩
  rcases h2.2 with ⟨e0, _⟩ | ⟨g', cap', cur, e0, hb, hg, hn', hm, hs, ht⟩
  · cases e0
  · injection e0 with e1 _ e3
    injection e1 with e1
    injection e1 with e1
    subst e1; subst e3
    exact ⟨cur, hg, hs, fun j hj => by omega⟩

set_option maxHeartbeats 1000000 in
theorem qclone_any (p : Option Addr) (n c : Nat) (l : List ByteArray) (w : World) (h : StrS w p n l) (hn : n ≤ 4096) :
    Calls Try.prog 18 #[.slice p n c] w fun e w' => ∃ p' c', e = .returned (.slice p' n c') ∧ StrS w' p' n l ∧ Below w.heap.size w w' := by
  have q27 : ∀ (w : World) (a : Option Addr) (n c n' c' : Nat), (binOp .eql 27 (.slice a n c) (.slice none n' c')).run Try.prog w = .ok (.bool a.isNone) w := fun w a n c n' c' => Lib.run_eql_slice_nil w _ _ a n c n' c' Try.underlying27
  have HH : Hid (StrS w p n l) := h
  have HL : Hid (l.length = n) := h.1
  have HC : Aside _ := h.2
  clear h
  cases p with
  | none =>
    have hn0 : n = 0 := by
      rcases Nat.eq_zero_or_pos n with h0 | h0
      · exact h0
      · obtain ⟨b, off, e, _⟩ := HC.out 0 h0
        cases e
    subst hn0
    go_enter Try.func18, Try.ntmps18
    go_wp2_with fail
    go_ret
    exact ⟨none, 0, rfl, HH.out, Below.refl _ _⟩
  | some a =>
    obtain ⟨w1, hm, hr⟩ := make_rel 27 9 1 16 _ info9 Try.underlying27 w n hn (by decide) (fun j => .string (l.getD j ByteArray.empty))
    have HR0 : Hid (MkRel w.heap.size w w1 w.heap.size 9 (n * 1) 0 (fun j => .string (l.getD j ByteArray.empty))) := hr
    obtain ⟨g, hg⟩ : ∃ g, g = w.heap.size := ⟨_, rfl⟩
    rw [← hg] at hm
    have HR1 : Hid (MkRel w.heap.size w w1 g 9 (n * 1) 0 (fun j => .string (l.getD j ByteArray.empty))) := by rw [hg]; exact HR0
    have hgw : w.heap.size ≤ g := by omega
    clear hr HR0 hg
    go_enter Try.func18, Try.ntmps18
    go_wp2_with fail
    clear hm
    go_loopw [4] (fun vi wq => ∃ (i : Nat), i ≤ n ∧ vi = .int .i64 i ∧ Hid (MkRel w.heap.size w wq g 9 (n * 1) i (fun j => .string (l.getD j ByteArray.empty)))) (fun vi _ => n - (intOf vi).toNat)
    case atStart => exact ⟨0, Nat.zero_le _, rfl, HR1⟩
    case round =>
      clear HR1
      obtain ⟨i, hin, rfl, HR⟩ := hrel
      by_cases hlt : i < n
      · have hlti : (i : Int) < (n : Int) := by omega
        obtain ⟨b, off, ha, hb, hc⟩ := HC.out i hlt
        obtain rfl := Option.some.inj ha
        have cx := hc i hlt
        rw [← cell_below HR.out.1 hb] at cx
        obtain ⟨⟨v, cv⟩, fv⟩ := HR.out.room i (by omega)
        have HS : Hid (MkRel w.heap.size w (wr.setCell ⟨g, i, none⟩ (.string (l.getD i ByteArray.empty))) g 9 (n * 1) (i + 1) (fun j => .string (l.getD j ByteArray.empty))) := HR.out.store (by omega) _ rfl
        generalize l.getD i ByteArray.empty = y at cx HS
        clear HR hc
        go_wp2_with fail
        go_roundw
        case rel => exact ⟨i + 1, by omega, by go_num, HS⟩
        case measure => simp [intOf]; omega
      · have hlti : ¬ (i : Int) < (n : Int) := by omega
        have HF : Hid (StrS wr (some ⟨g, 0, none⟩) n l ∧ Below w.heap.size w wr) := by
          have hlt2 := HR.out.lt
          obtain ⟨h0, h1, cur, hg, hs, hc⟩ := HR.out
          refine ⟨⟨HL.out, fun j hj => ⟨g, 0, rfl, hlt2, fun j hj => ?_⟩⟩, h0⟩
          simp only [World.cell?, hg, Option.isSome_none, Bool.false_eq_true, if_false, Nat.zero_add]
          exact hc j (by omega)
        clear HR
        go_wp2_with fail
        go_ret
        first
          | exact ⟨_, _, rfl, HF.out⟩
          | exact ⟨_, HF.out.1, ⟨_, rfl⟩, HF.out.2⟩
          | exact ⟨_, ⟨_, rfl⟩, HF.out⟩

set_option maxHeartbeats 2000000 in
set_option maxRecDepth 100000 in
theorem qlabels_any (p1 p2 : Option Addr) (n c1 c2 : Nat) (ns vs : List ByteArray) (w : World) (h : StrS w p1 n ns) (h' : StrS w p2 n vs) (hn : n ≤ 4096) :
    Calls Try.prog 20 #[.slice p1 n c1, .slice p2 n c2] w fun e w' => ∃ g, e = .returned (.slice (some ⟨g, 0, none⟩) n n) ∧ OwnL w.heap.size w' g n n (zipL ns vs) ∧ Below w.heap.size w w' := by
  have HL : Hid (ns.length = n ∧ vs.length = n) := ⟨h.1, h'.1⟩
  have HC : Aside _ := h.2
  have HC2 : Aside _ := h'.2
  clear h h'
  obtain ⟨w1, hm, hr⟩ := make_rel 37 41 2 32 _ info41 Try.underlying37 w n hn (by decide) (fun j => (lcells (zipL ns vs)).getD j (.bool true))
  have HR0 : Hid (MkRel w.heap.size w w1 w.heap.size 41 (n * 2) 0 (fun j => (lcells (zipL ns vs)).getD j (.bool true))) := hr
  obtain ⟨g, hg⟩ : ∃ g, g = w.heap.size := ⟨_, rfl⟩
  rw [← hg] at hm
  have HR1 : Hid (MkRel w.heap.size w w1 g 41 (n * 2) (0 * 2) (fun j => (lcells (zipL ns vs)).getD j (.bool true))) := by rw [hg]; exact HR0
  have hgw : w.heap.size ≤ g := by omega
  clear hr HR0 hg
  go_enter Try.func20, Try.ntmps20
  go_wp2_with fail
  clear hm
  go_loopw [6] (fun vi wq => ∃ (i : Nat), i ≤ n ∧ vi = .int .i64 i ∧ Hid (MkRel w.heap.size w wq g 41 (n * 2) (i * 2) (fun j => (lcells (zipL ns vs)).getD j (.bool true)))) (fun vi _ => n - (intOf vi).toNat)
  case atStart => exact ⟨0, Nat.zero_le _, rfl, HR1⟩
  case round =>
    clear HR1
    obtain ⟨i, hin, rfl, HR⟩ := hrel
    by_cases hlt : i < n
    · have hlti : (i : Int) < (n : Int) := by omega
      obtain ⟨b, off, rfl, hb, hc⟩ := HC.out i hlt
      obtain ⟨b2, off2, rfl, hb2, hc2⟩ := HC2.out i hlt
      have cx := hc i hlt
      have cx2 := hc2 i hlt
      rw [← cell_below HR.out.1 hb] at cx
      rw [← cell_below HR.out.1 hb2] at cx2
      obtain ⟨y, hy⟩ : ∃ y, y = ns.getD i ByteArray.empty := ⟨_, rfl⟩
      obtain ⟨z, hz⟩ : ∃ z, z = vs.getD i ByteArray.empty := ⟨_, rfl⟩
      rw [← hy] at cx
      rw [← hz] at cx2
      have hzip := zipL_getD ns vs n HL.out.1 HL.out.2 i hlt
      have hzl := zipL_len ns vs n HL.out.1 HL.out.2
      rw [← hy, ← hz, getD_eq _ _ (by rw [hzl]; exact hlt)] at hzip
      have hget := lcells_get (zipL ns vs) i (by rw [hzl]; exact hlt)
      rw [hzip] at hget
      obtain ⟨⟨v, cv⟩, fv⟩ := HR.out.room (i * 2) (by omega)
      obtain ⟨⟨v', cv'⟩, fv'⟩ := HR.out.room (i * 2 + 1) (by omega)
      have HS : Hid (MkRel w.heap.size w (((wr.setCell ⟨g, i * 2, none⟩ (.string y)).setCell ⟨g, i * 2 + 1, none⟩ (.string z)).drew) g 41 (n * 2) ((i + 1) * 2) (fun j => (lcells (zipL ns vs)).getD j (.bool true))) := by
        have a0 := HR.out
        have a1 := a0.store (by omega) (.string y) (by simp [List.getD, hget.1])
        have a2 := a1.store (by omega) (.string z) (by simp [List.getD, hget.2])
        rw [show (i + 1) * 2 = i * 2 + 1 + 1 by omega]
        exact a2.below (below_drewN _ _ 1)
      clear HR hc hc2 hget hzip hzl hy hz
      go_wp2_with fail
      go_big_region
      generalize ((wr.setCell ⟨g, i * 2, none⟩ (.string y)).setCell ⟨g, i * 2 + 1, none⟩ (.string z)).drew = w5 at HS ⊢
      go_wp2_with fail
      go_roundw
      case rel => exact ⟨i + 1, by omega, by go_num, HS⟩
      case measure => simp [intOf]; omega
    · have hlti : ¬ (i : Int) < (n : Int) := by omega
      have HF : Hid (OwnL w.heap.size wr g n n (zipL ns vs) ∧ Below w.heap.size w wr) := by
        obtain ⟨h0, h1, cur, hg, hs, hc⟩ := HR.out
        have hzl := zipL_len ns vs n HL.out.1 HL.out.2
        refine ⟨OwnL.mk hzl h1 hg (Nat.le_refl _) (by unfold maxLen; omega) hs ?_, h0⟩
        apply List.ext_getElem?
        intro j
        rw [List.getElem?_take, Array.getElem?_toList]
        by_cases hj : j < n * 2
        · rw [if_pos hj, hc j (by omega)]
          have hjl : j < (lcells (zipL ns vs)).length := by rw [lcells_length, hzl]; exact hj
          simp [List.getD, hjl]
        · rw [if_neg hj, List.getElem?_eq_none (by rw [lcells_length, hzl]; omega)]
      clear HR
      go_wp2_with fail
      go_ret
      exact ⟨_, rfl, HF.out⟩
end Go.Proofs.Qxb6600238a
