import Derived.Test.Qxb6000456aTh2
import Derived.Test.Qxb6000456aNfa
import Derived.Deep.LoopGhost
namespace Go.Proofs.Qxb6000456a
open Go.RowKit
set_option linter.unusedVariables false

def icells (i : I) : List Value := [.int .u8 i.op, .int .i32 i.arg, .int .i32 i.next]
def irow (P : List I) : List Value := P.flatMap icells

theorem irow_length (P : List I) : (irow P).length = P.length * 3 := by
  induction P with
  | nil => rfl
  | cons a l ih => simp [irow, icells] at *; omega

theorem irow_append (P Q : List I) : irow (P ++ Q) = irow P ++ irow Q := by simp [irow]

theorem irow_get {P : List I} {k : Nat} {i : I} (h : P[k]? = some i) (j : Nat) (hj : j < 3) : (irow P)[k * 3 + j]? = (icells i)[j]? := by
  induction P generalizing k with
  | nil => simp at h
  | cons a l ih =>
    have e : irow (a :: l) = icells a ++ irow l := rfl
    cases k with
    | zero =>
      simp at h
      subst h
      rw [e, Nat.zero_mul, Nat.zero_add, List.getElem?_append_left (by simp [icells]; omega)]
    | succ k =>
      simp at h
      rw [e, List.getElem?_append_right (by simp [icells]; omega)]
      have := ih h
      have e2 : (k + 1) * 3 + j - (icells a).length = k * 3 + j := by simp [icells]; omega
      rw [e2]
      exact this

/-- The program's instructions, at block p (its field 'sets' holds vs). -/
structure PrAt (w : World) (p gi ci : Nat) (vs : Value) (P : List I) : Prop where
  head : w.heap[p]? = some (.cells #[.slice (some ⟨gi, 0, none⟩) P.length ci, vs] 60 (0, 0))
  row : w.ownsRow 0 64 3 (.slice (some ⟨gi, 0, none⟩) P.length ci) P.length (irow P)

theorem PrAt.kept {F : Nat → Prop} {w w' : World} {p gi ci : Nat} {vs : Value} {P : List I} (h : PrAt w p gi ci vs P) (hk : Kept F w w') (h1 : ¬ F p) (h2 : ¬ F gi) : PrAt w' p gi ci vs P :=
  ⟨hk.heap h.head h1, hk.owns h.row (fun g e => by simp [Value.ownBlock] at e; subst e; exact h2)⟩
theorem PrAt.cell0 {w : World} {p gi ci : Nat} {vs : Value} {P : List I} (h : PrAt w p gi ci vs P) : w.cell? ⟨p, 0, none⟩ = some (.slice (some ⟨gi, 0, none⟩) P.length ci) := by rw [cell_of_heap h.head]; rfl
theorem PrAt.cell1 {w : World} {p gi ci : Nat} {vs : Value} {P : List I} (h : PrAt w p gi ci vs P) : w.cell? ⟨p, 1, none⟩ = some vs := by rw [cell_of_heap h.head]; rfl
theorem PrAt.op {w : World} {p gi ci : Nat} {vs : Value} {P : List I} (h : PrAt w p gi ci vs P) {k : Nat} {i : I} (hi : P[k]? = some i) : w.cell? ⟨gi, k * 3, none⟩ = some (.int .u8 i.op) := by
  have hl : k < P.length := (List.getElem?_eq_some_iff.1 hi).1
  rw [h.row.cellAt (k * 3) (by omega)]
  exact irow_get hi 0 (by omega)
theorem PrAt.arg {w : World} {p gi ci : Nat} {vs : Value} {P : List I} (h : PrAt w p gi ci vs P) {k : Nat} {i : I} (hi : P[k]? = some i) : w.cell? ⟨gi, k * 3 + 1, none⟩ = some (.int .i32 i.arg) := by
  have hl : k < P.length := (List.getElem?_eq_some_iff.1 hi).1
  rw [h.row.cellAt (k * 3 + 1) (by omega)]
  exact irow_get hi 1 (by omega)
theorem PrAt.next {w : World} {p gi ci : Nat} {vs : Value} {P : List I} (h : PrAt w p gi ci vs P) {k : Nat} {i : I} (hi : P[k]? = some i) : w.cell? ⟨gi, k * 3 + 2, none⟩ = some (.int .i32 i.next) := by
  have hl : k < P.length := (List.getElem?_eq_some_iff.1 hi).1
  rw [h.row.cellAt (k * 3 + 2) (by omega)]
  exact irow_get hi 2 (by omega)
theorem PrAt.lt {w : World} {p gi ci : Nat} {vs : Value} {P : List I} (h : PrAt w p gi ci vs P) : p < w.heap.size ∧ gi < w.heap.size := ⟨lt_of_block h.head, ownsRow_elim h.row⟩

/-- Every target lies in the program. -/
structure Wf (P : List I) (M : Nat) : Prop where
  small : P.length ≤ 4194304
  op : ∀ i ∈ P, i.op ≤ 3
  split : ∀ i ∈ P, i.op = 1 → i.arg < P.length ∧ i.next < P.length
  jump : ∀ i ∈ P, i.op = 2 → i.next < P.length
  byte : ∀ i ∈ P, i.op = 0 → i.arg < M ∧ i.next < P.length
  arg : ∀ i ∈ P, i.arg ≤ 4194304
  next : ∀ i ∈ P, i.next ≤ 4194304

/-- Where the loop of 'follow' stands. -/
structure FolW (w : World) (p gi ci : Nat) (vs : Value) (P : List I) (t gd ga : Nat) (own : Option Nat) (D0 : List Nat) (pc : Nat) (wr : World) (D A S : List Nat) (g cap : Nat) : Prop where
  th : ThAt wr t gd ga P.length D A
  st : wr.ownsRow 0 21 1 (.slice (some ⟨g, 0, none⟩) S.length cap) S.length (S.map I32)
  kept : Kept (fun k => thF t gd ga k ∨ own = some k) w wr
  blk : own = some g ∨ w.heap.size ≤ g
  fol : Fol P D0 pc D S
  lt : ∀ x ∈ S, x < P.length
  few : 3 * (P.length - D.length) + S.length ≤ 3 * P.length + 1

theorem FolW.skip {w : World} {p gi ci : Nat} {vs : Value} {P : List I} {t gd ga : Nat} {own : Option Nat} {D0 : List Nat} {pc : Nat} {wr w2 : World} {D A A2 S : List Nat} {x g cap : Nat}
    (F : FolW w p gi ci vs P t gd ga own D0 pc wr D A (S ++ [x]) g cap) (hg : ¬ thF t gd ga g) (hth : ThAt w2 t gd ga P.length D A2) (hk : Kept (thF t gd ga) wr w2) (hx : x ∈ D) :
    FolW w p gi ci vs P t gd ga own D0 pc w2 D A2 S g cap := by
  refine ⟨hth, ?_, F.kept.trans hk (fun i _ h => .inl h), F.blk, F.fol.skip hx, fun y hy => F.lt y (by simp [hy]), by have := F.few; simp at this; omega⟩
  have h1 := ownsRow_take F.st (m := S.length) (by simp)
  have h2 := hk.owns h1 (fun g' e => by simp [Value.ownBlock] at e; subst e; exact hg)
  simpa using h2

theorem FolW.push {w : World} {p gi ci : Nat} {vs : Value} {P : List I} {t gd ga : Nat} {own : Option Nat} {D0 : List Nat} {pc : Nat} {wr w2 w4 : World} {D A A2 S T : List Nat} {x g cap g2 cap2 : Nat}
    (F : FolW w p gi ci vs P t gd ga own D0 pc wr D A (S ++ [x]) g cap) (hg : ¬ thF t gd ga g) (hth : ThAt w2 t gd ga P.length (D ++ [x]) A2) (hk : Kept (thF t gd ga) wr w2) (k4 : Kept (fun k => k = g) w2 w4)
    (own4 : w4.ownsRow 0 21 1 (.slice (some ⟨g2, 0, none⟩) (S ++ T).length cap2) (S ++ T).length ((S ++ T).map I32)) (hg2 : g2 = g ∨ wr.heap.size ≤ g2)
    (hT : ∀ b, eps P x b → b ∈ T) (hT' : ∀ b ∈ T, eps P x b) (hTl : T.length ≤ 2) (hTn : ∀ b ∈ T, b < P.length) :
    FolW w p gi ci vs P t gd ga own D0 pc w4 (D ++ [x]) A2 (S ++ T) g2 cap2 := by
  have hle := hth.sp.length_le
  simp at hle
  have few := F.few
  simp at few
  refine ⟨hth.kept k4 (fun k hk e => hg (e ▸ hk)), own4, ?_, ?_, F.fol.take hT hT', ?_, by simp; omega⟩
  · refine F.kept.trans ((hk.mono (G := fun k => thF t gd ga k ∨ k = g) (fun _ _ h => .inl h)).trans (G := fun k => k = g) k4 (fun i _ h => .inr h)) ?_
    · intro i hi h
      rcases h with h | h
      · exact .inl h
      · rcases F.blk with hb | hb
        · exact .inr (h ▸ hb)
        · omega
  · rcases hg2 with rfl | h
    · exact F.blk
    · exact .inr (Nat.le_trans F.kept.size h)
  · intro y hy
    rcases List.mem_append.1 hy with hy | hy
    · exact F.lt y (by simp [hy])
    · exact hTn y hy

theorem size_elem69 (w : World) : (sizeOf (Try.prog.elem 69)).run Try.prog w = .ok 1 w := by kernel_rfl
theorem reslice0 {w : World} {v : Value} {n : Nat} {xs : List Value} (hst : w.ownsRow 0 21 1 v n xs) :
   ∃ v0, (∀ w, (Instr.slice 69 v none (some (.int .i64 0)) none).run Try.prog w = .ok v0 w) ∧ w.ownsRow 0 21 1 v0 0 [] ∧ v0.ownBlock = v.ownBlock := by
  rcases hst.2 with ⟨rfl, rfl⟩ | ⟨g, cap, cur, rfl, h⟩
  · refine ⟨.slice none 0 0, fun w => ?_, World.ownsRow_nil _ _ _ _, rfl⟩
    have := run_slice_h (P := Try.prog) (t := 69) (w := w) (a := none) (len := 0) (cap := 0) Try.underlying69 .i64 0 (by omega) (by omega)
    simpa [size_elem69, sliced, Result.andThen, Addr.add_lit] using this
  · have h1 := ownsRow_take hst (Nat.zero_le _)
    refine ⟨.slice (some ⟨g, 0, none⟩) 0 cap, fun w => ?_, by simpa using h1, rfl⟩
    have := run_slice_h (P := Try.prog) (t := 69) (w := w) (a := some ⟨g, 0, none⟩) (len := n) (cap := cap) Try.underlying69 .i64 0 (by omega) (by omega)
    simpa [size_elem69, sliced, Result.andThen, Addr.add_lit] using this

set_option maxHeartbeats 400000 in
theorem follow_any (p gi ci : Nat) (vs : Value) (P : List I) (M : Nat) (wf : Wf P M) (t gd ga : Nat) (D A : List Nat) (pc : Nat) (hpc : pc < P.length) (v : Value) (n : Nat) (xs : List Value) (w : World)
    (hp : PrAt w p gi ci vs P) (hth : ThAt w t gd ga P.length D A) (hst : w.ownsRow 0 21 1 v n xs) (d1 : ¬ thF t gd ga p) (d2 : ¬ thF t gd ga gi)
    (d3 : ∀ g, v.ownBlock = some g → ¬ thF t gd ga g ∧ g ≠ p ∧ g ≠ gi) (hc : Closed P D) :
    Calls Try.prog 35 #[.pointer (some ⟨p, 0, none⟩), .pointer (some ⟨t, 0, none⟩), .int .i32 pc, v] w fun e w' => ∃ D' A' v', e = .returned v' ∧ ThAt w' t gd ga P.length D' A' ∧ w'.ownsRow 0 21 1 v' 0 [] ∧
      (v'.ownBlock = v.ownBlock ∨ ∃ g, v'.ownBlock = some g ∧ w.heap.size ≤ g) ∧ Kept (fun k => thF t gd ga k ∨ v.ownBlock = some k) w w' ∧
      Closed P D' ∧ pc ∈ D' ∧ (∀ x ∈ D, x ∈ D') ∧ (∀ x ∈ D', x ∈ D ∨ epsStar P pc x) := by
  obtain ⟨i0, hi0, hz0, hz1, hz2⟩ := info_parts Try.info21
  obtain ⟨v0, hsl, hown0, hblk⟩ : ∃ v0, (∀ w, (Instr.slice 69 v none (some (.int .i64 0)) none).run Try.prog w = .ok v0 w) ∧ w.ownsRow 0 21 1 v0 0 [] ∧ v0.ownBlock = v.ownBlock := reslice0 hst
  have HO : Hid (w.ownsRow 0 21 1 v0 0 []) := hown0
  have HB : Hid (v0.ownBlock = v.ownBlock) := hblk
  have hsmall := wf.small
  clear hown0 hblk
  go_enter Try.func35, Try.ntmps35
  go_wp2_with (at_builtin; refine wpList_append_lies _ rfl _ _ 69 rfl 0 21 i0 (.int .i32 0) 1 4 Try.underlying69 hi0 hz0 hz1 hz2 rfl (by decide) v0 0 [] rfl (HO.out.alloc _) ⟨w.heap.size, 0, none⟩ 1 1 [.int .i32 pc] rfl rfl ?c1 ?c2 (by decide) ?c3 ?c4 (Nat.zero_le _) (w.heap.size + 1) ?c5 ?_)
  case c1 => exact cell_one_new _ _ _
  case c2 => simp; rfl
  case c3 => decide
  case c4 => decide
  case c5 => simp
  intro g cap w1 hown1 hgr1 hg1 hlt1
  have hb1 : v.ownBlock = some g ∨ w.heap.size ≤ g := by
    rcases hg1 with h | h
    · exact .inl (HB.out ▸ h)
    · exact .inr (by omega)
  have hk1 : Kept (fun k => thF t gd ga k ∨ v.ownBlock = some k) w w1 := ((Kept.refl _ w).alloc _).grown hgr1 (fun k e _ => .inr (by rw [← HB.out]; exact e))
  have F1 : FolW w p gi ci vs P t gd ga v.ownBlock D pc w1 D A [pc] g cap := by
    refine ⟨hth.kept (((Kept.refl (fun k => v.ownBlock = some k) w).alloc _).grown hgr1 (fun k e _ => by rw [← HB.out]; exact e)) (fun k hk e => (d3 k e).1 hk), ?_, hk1, hb1, Fol.start hc, by simpa using hpc, by simp only [List.length_cons, List.length_nil]; omega⟩
    simpa [I32] using hown1
  clear hown1 hgr1 hg1 hb1 hk1 HO hsl
  go_wp2_with fail
  go_loopg [3] (3 * P.length + 2) (fun k u wr => ∃ D' A' S g cap, u = .slice (some ⟨g, 0, none⟩) S.length cap ∧ 3 * (P.length - D'.length) + S.length < k ∧ FolW w p gi ci vs P t gd ga v.ownBlock D pc wr D' A' S g cap)
  case atStart => exact ⟨D, A, [pc], g, cap, rfl, by have := F1.few; omega, F1⟩
  case round =>
    obtain ⟨D', A', S, g', cap', rfl, hk, F⟩ := hrel
    clear F1
    by_cases hS : S = []
    · subst hS
      go_wp2_with fail
      go_ret
      obtain ⟨q1, q2, q3, q4⟩ := F.fol.done
      exact ⟨D', A', _, rfl, F.th, F.st, F.blk.elim (fun h => .inl h.symm) (fun h => .inr ⟨g', rfl, h⟩), F.kept, q1, q2, q3, q4⟩
    · obtain ⟨S', x, hSx⟩ : ∃ S' x, S = S' ++ [x] := ⟨S.dropLast, S.getLast hS, (List.dropLast_concat_getLast hS).symm⟩
      subst hSx
      clear hS
      rw [List.length_append]
      simp only [List.length_cons, List.length_nil, Nat.zero_add]
      have hcap := ownsRow_cap F.st
      rw [List.length_append] at hcap
      simp only [List.length_cons, List.length_nil, Nat.zero_add] at hcap
      unfold maxLen at hcap
      have hfew := F.few
      rw [List.length_append] at hfew hk
      simp only [List.length_cons, List.length_nil, Nat.zero_add] at hfew hk
      have hx : x < P.length := F.lt x (by simp)
      have hcell : wr.cell? ⟨g', S'.length, none⟩ = some (.int .i32 x) := by
        rw [F.st.cellAt S'.length (by simp)]
        simp [I32]
      have hTh : Hid (∀ n, ThAt (wr.drewN n) t gd ga P.length D' A') := fun n => F.th.kept ((Kept.refl (fun _ => False) wr).drewN n) (fun _ _ h => h)
      have HF : Hid (FolW w p gi ci vs P t gd ga v.ownBlock D pc wr D' A' (S' ++ [x]) g' cap') := F
      have Hk : Hid (3 * (P.length - D'.length) + (S'.length + 1) < gk) := hk
      clear F hk
      obtain ⟨hcap1, hcap2⟩ := hcap
      go_wp2_with fail
      go_quiet (fail)
      go_wp2_with fail
      have hgt : ¬ thF t gd ga g' := by
        rcases HF.out.blk with h | h
        · exact (d3 g' h).1
        · intro e; have := hth.lt g' e; omega
      by_cases hm : x ∈ D'
      · refine (add_any t gd ga P.length D' A' x (by omega) hx _ (hTh.out nq)).mono ?_
        rintro e w2 ⟨A2, rfl, hth2, hk2⟩
        have hcon : D'.contains x = true := by simpa using hm
        rw [hcon]
        rw [if_pos hm] at hth2
        have F2 := HF.out.skip hgt hth2 (((Kept.refl _ wr).drewN nq).trans hk2 (fun _ _ h => h)) hm
        clear hth2 hk2 HF hTh hcon
        go_wp2_with fail
        go_roundg (3 * (P.length - D'.length) + S'.length + 1)
        case measure => have := Hk.out; omega
        case rel => exact ⟨D', A2, S', g', cap', rfl, by omega, F2⟩
      · refine (add_any t gd ga P.length D' A' x (by omega) hx _ (hTh.out nq)).mono ?_
        rintro e w2 ⟨A2, rfl, hth2, hk2⟩
        have hcon : D'.contains x = false := by simpa using hm
        rw [hcon]
        rw [if_neg hm] at hth2
        have hk2' : Kept (thF t gd ga) wr w2 := ((Kept.refl _ wr).drewN nq).trans hk2 (fun _ _ h => h)
        have hp2 : PrAt w2 p gi ci vs P := hp.kept (HF.out.kept.trans hk2' (fun _ _ h => .inl h)) (fun h => h.elim d1 (fun e => (d3 p e).2.1 rfl)) (fun h => h.elim d2 (fun e => (d3 gi e).2.2 rfl))
        obtain ⟨i, hi⟩ : ∃ i, P[x]? = some i := ⟨_, List.getElem?_eq_getElem hx⟩
        have him : i ∈ P := List.mem_of_getElem? hi
        have e0 := hp2.cell0
        have e1 := hp2.op hi
        have e2 := hp2.arg hi
        have e3 := hp2.next hi
        have hD : D'.length + 1 ≤ P.length := by have := hth2.sp.length_le; simpa using this
        have HFP : Hid (∀ (w4 : World) (T : List Nat) (g2 cap2 : Nat), Kept (fun k => k = g') w2 w4 → w4.ownsRow 0 21 1 (.slice (some ⟨g2, 0, none⟩) (S' ++ T).length cap2) (S' ++ T).length ((S' ++ T).map I32) → (g2 = g' ∨ wr.heap.size ≤ g2) →
            (∀ b, eps P x b → b ∈ T) → (∀ b ∈ T, eps P x b) → T.length ≤ 2 → (∀ b ∈ T, b < P.length) → FolW w p gi ci vs P t gd ga v.ownBlock D pc w4 (D' ++ [x]) A2 (S' ++ T) g2 cap2) :=
          fun w4 T g2 cap2 k4 o4 hg2 a b c d => HF.out.push hgt hth2 hk2' k4 o4 hg2 a b c d
        have HO2 : Hid (w2.ownsRow 0 21 1 (.slice (some ⟨g', 0, none⟩) S'.length cap') S'.length (S'.map I32)) := by
          have h1 := ownsRow_take HF.out.st (m := S'.length) (by simp)
          have h2 := hk2'.owns h1 (fun g'' e => by simp [Value.ownBlock] at e; subst e; exact hgt)
          show w2.ownsRow 0 21 1 (.slice (some ⟨g', 0, none⟩) S'.length cap') S'.length (S'.map I32)
          simpa using h2
        have Hsz : Hid (wr.heap.size ≤ w2.heap.size) := hk2'.size
        have HI : Hid (P[x]? = some i) := hi
        clear hth2 hk2 HF hTh hcon hk2' hp2 hi hcell
        by_cases ho1 : i.op = 1
        · obtain ⟨ha, hn⟩ := wf.split i him ho1
          rw [ho1] at e1
          have HE : Hid (∀ b, eps P x b ↔ b ∈ [i.arg, i.next]) := by
            intro b
            constructor
            · rintro ⟨j, hj, h⟩
              rw [HI.out] at hj
              cases hj
              rcases h with ⟨_, h⟩ | ⟨h, _⟩
              · simpa using h
              · omega
            · intro h
              exact ⟨i, HI.out, .inl ⟨ho1, by simpa using h⟩⟩
          have HO1 : Hid (i.op = 1) := ho1
          clear ho1
          go_wp2_with (at_builtin; refine wpList_append_lies _ rfl _ _ 69 rfl 0 21 i0 (.int .i32 0) 1 4 Try.underlying69 hi0 hz0 hz1 hz2 rfl (by decide) (.slice (some ⟨g', 0, none⟩) S'.length cap') S'.length (S'.map I32) rfl ((HO2.out.alloc _).alloc _) ⟨w2.heap.size + 1, 0, none⟩ 2 2 [.int .i32 i.arg, .int .i32 i.next] rfl rfl ?c1 ?c2 (by decide) ?c3 ?c4 (Nat.zero_le _) (w2.heap.size + 1 + 1) ?c5 ?_)
          case c1 => 
            have := cell_two_new (w2.alloc (Obj.cells #[Value.int IntKind.u8 1, Value.int IntKind.i32 i.arg, Value.int IntKind.i32 i.next] 64)) (Value.int IntKind.i32 i.arg) (Value.int IntKind.i32 i.next) 21
            simpa using this
          case c2 => intro u hu; simp at hu; rcases hu with rfl | rfl <;> rfl
          case c3 => unfold maxLen; omega
          case c4 => omega
          case c5 => simp
          intro g4 cap4 w4 hown4 hgr4 hg4 hlt4
          have k4 : Kept (fun k => k = g') w2 w4 := (((Kept.refl _ w2).alloc _).alloc _).grown hgr4 (fun k e _ => by simp [Value.ownBlock] at e; exact e.symm)
          have F4 := HFP.out w4 [i.arg, i.next] g4 cap4 k4 (by simpa [I32] using hown4) (by
            have := Hsz.out
            rcases hg4 with h | h
            · simp [Value.ownBlock] at h; exact .inl h.symm
            · exact .inr (by omega)) (fun b hb => (HE.out b).1 hb) (fun b hb => (HE.out b).2 hb) (by simp) (by simpa using ⟨ha, hn⟩)
          clear hown4 hgr4 hg4 k4 HFP HO2
          go_wp2_with fail
          go_roundg (3 * (P.length - (D' ++ [x]).length) + (S' ++ [i.arg, i.next]).length + 1)
          case measure => have := Hk.out; simp; omega
          case rel => exact ⟨D' ++ [x], A2, S' ++ [i.arg, i.next], g4, cap4, by simp, by omega, F4⟩
        · by_cases ho2 : i.op = 2
          · have hn := wf.jump i him ho2
            rw [ho2] at e1
            have HE : Hid (∀ b, eps P x b ↔ b ∈ [i.next]) := by
              intro b
              constructor
              · rintro ⟨j, hj, h⟩
                rw [HI.out] at hj
                cases hj
                rcases h with ⟨h, _⟩ | ⟨_, h⟩
                · omega
                · simpa using h
              · intro h
                exact ⟨i, HI.out, .inr ⟨ho2, by simpa using h⟩⟩
            clear ho2 ho1
            go_wp2_with (at_builtin; refine wpList_append_lies _ rfl _ _ 69 rfl 0 21 i0 (.int .i32 0) 1 4 Try.underlying69 hi0 hz0 hz1 hz2 rfl (by decide) (.slice (some ⟨g', 0, none⟩) S'.length cap') S'.length (S'.map I32) rfl ((HO2.out.alloc _).alloc _) ⟨w2.heap.size + 1, 0, none⟩ 1 1 [.int .i32 i.next] rfl rfl ?c1 ?c2 (by decide) ?c3 ?c4 (Nat.zero_le _) (w2.heap.size + 1 + 1) ?c5 ?_)
            case c1 => 
              have := cell_one_new (w2.alloc (Obj.cells #[Value.int IntKind.u8 2, Value.int IntKind.i32 i.arg, Value.int IntKind.i32 i.next] 64)) (Value.int IntKind.i32 i.next) 21
              simpa using this
            case c2 => intro u hu; simp at hu; subst hu; rfl
            case c3 => unfold maxLen; omega
            case c4 => omega
            case c5 => simp
            intro g4 cap4 w4 hown4 hgr4 hg4 hlt4
            have k4 : Kept (fun k => k = g') w2 w4 := (((Kept.refl _ w2).alloc _).alloc _).grown hgr4 (fun k e _ => by simp [Value.ownBlock] at e; exact e.symm)
            have F4 := HFP.out w4 [i.next] g4 cap4 k4 (by simpa [I32] using hown4) (by
              have := Hsz.out
              rcases hg4 with h | h
              · simp [Value.ownBlock] at h; exact .inl h.symm
              · exact .inr (by omega)) (fun b hb => (HE.out b).1 hb) (fun b hb => (HE.out b).2 hb) (by simp) (by simpa using hn)
            clear hown4 hgr4 hg4 k4 HFP HO2
            go_wp2_with fail
            go_roundg (3 * (P.length - (D' ++ [x]).length) + (S' ++ [i.next]).length + 1)
            case measure => have := Hk.out; simp; omega
            case rel => exact ⟨D' ++ [x], A2, S' ++ [i.next], g4, cap4, by simp, by omega, F4⟩
          · have HE : Hid (∀ b, ¬ eps P x b) := by
              rintro b ⟨j, hj, h⟩
              rw [HI.out] at hj
              cases hj
              rcases h with ⟨h, _⟩ | ⟨h, _⟩ <;> omega
            have t1 : ((i.op : Int) == 1) = false := by rw [beq_eq_false_iff_ne]; omega
            have t2 : ((i.op : Int) == 2) = false := by rw [beq_eq_false_iff_ne]; omega
            have F4 := HFP.out (w2.alloc (.cells #[.int .u8 i.op, .int .i32 i.arg, .int .i32 i.next] 64)) [] g' cap' ((Kept.refl _ w2).alloc _) (by simpa using HO2.out.alloc _) (.inl rfl) (fun b hb => (HE.out b hb).elim) (by simp) (by simp) (by simp)
            clear HFP HO2 HE ho1 ho2
            go_wp2_with fail
            go_roundg (3 * (P.length - (D' ++ [x]).length) + S'.length + 1)
            case measure => have := Hk.out; simp; omega
            case rel => exact ⟨D' ++ [x], A2, S' ++ [], g', cap', by simp, by simp, F4⟩
end Go.Proofs.Qxb6000456a
