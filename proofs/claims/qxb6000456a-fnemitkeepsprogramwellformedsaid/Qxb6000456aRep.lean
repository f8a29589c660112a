import Derived.Test.Qxb6000456aGen
namespace Go.Proofs.Qxb6000456a
open Go.RowKit
set_option linter.unusedVariables false
set_option linter.unusedSimpArgs false

theorem EmAt.form {w : World} {p m : Nat} {ai : Option Addr} {ci : Nat} {asx : Option Addr} {cs : Nat} {P : List I} {L : List S4} (h : EmAt w p m ai ci asx cs P L) (hP : 0 < P.length) : ∃ gi, ai = some ⟨gi, 0, none⟩ := by
  rcases h.rowI.2 with ⟨_, h0⟩ | ⟨g, cap, cur, hv, _⟩
  · omega
  · simp at hv
    exact ⟨g, hv.1⟩

/-- One cell of the row of instructions is stored. -/
theorem EmAt.patch {w : World} {p m gi : Nat} {ci : Nat} {asx : Option Addr} {cs : Nat} {P P' : List I} {L : List S4} (h : EmAt w p m (some ⟨gi, 0, none⟩) ci asx cs P L) (j : Nat) (u : Value) (hl : P'.length = P.length) (hr : (irow P).set j u = irow P') :
    EmAt (w.setCell ⟨gi, j, none⟩ u) p m (some ⟨gi, 0, none⟩) ci asx cs P' L ∧ EmTo p m w (w.setCell ⟨gi, j, none⟩ u) (some ⟨gi, 0, none⟩) asx (some ⟨gi, 0, none⟩) asx := by
  have hp : gi ≠ p := fun e => h.pi (by simp [ownOf, e])
  have hm : gi ≠ m := fun e => h.mi (by simp [ownOf, e])
  have hs : ownOf asx ≠ some gi := h.is gi rfl
  have hk : Kept (fun k => k = gi) w (w.setCell ⟨gi, j, none⟩ u) := (Kept.refl (fun k => k = gi) w).setCell (p := ⟨gi, j, none⟩) (fun _ => rfl) _
  refine ⟨⟨?_, ?_, ?_, ?_, h.pm, h.pi, h.ps, h.mi, h.ms, h.is, h.nd, h.wf⟩, ⟨?_, fun k hk => .inl hk⟩⟩
  · rw [hl]; exact hk.heap h.head (fun e => hp e.symm)
  · rw [hl, ← hr]; exact ownsRow_set h.rowI j u
  · exact hk.owns h.rowS (fun k e => by rw [ownBlock_slice] at e; rintro rfl; exact hs e)
  · exact h.map.kept hk (fun e => hm e.symm)
  · exact hk.mono (fun i _ e => .inr (.inr (.inl (by simp [ownOf, e]))))

theorem EmAt.cellI {w : World} {p m gi : Nat} {ci : Nat} {asx : Option Addr} {cs : Nat} {P : List I} {L : List S4} (h : EmAt w p m (some ⟨gi, 0, none⟩) ci asx cs P L) {k : Nat} {i : I} (hi : P[k]? = some i) :
    w.cell? ⟨gi, k * 3, none⟩ = some (.int .u8 i.op) ∧ w.cell? ⟨gi, k * 3 + 1, none⟩ = some (.int .i32 i.arg) ∧ w.cell? ⟨gi, k * 3 + 2, none⟩ = some (.int .i32 i.next) := by
  have hl : k < P.length := (List.getElem?_eq_some_iff.1 hi).1
  refine ⟨?_, ?_, ?_⟩
  · rw [h.rowI.cellAt (k * 3) (by omega)]; exact irow_get hi 0 (by omega)
  · rw [h.rowI.cellAt (k * 3 + 1) (by omega)]; exact irow_get hi 1 (by omega)
  · rw [h.rowI.cellAt (k * 3 + 2) (by omega)]; exact irow_get hi 2 (by omega)
theorem EmAt.freeI {w : World} {p m gi : Nat} {ci : Nat} {asx : Option Addr} {cs : Nat} {P : List I} {L : List S4} (h : EmAt w p m (some ⟨gi, 0, none⟩) ci asx cs P L) (j : Nat) : w.frozen? ⟨gi, j, none⟩ = false := h.rowI.frozenAt j

/-- The program in a later world, seen from w0. -/
def EmSt (p m : Nat) (w0 : World) (ai0 as0 : Option Addr) (w : World) (s : St) : Prop :=
  ∃ ai ci asx cs, EmAt w p m ai ci asx cs s.P s.L ∧ EmTo p m w0 w ai0 as0 ai asx

theorem EmSt.still {p m : Nat} {w0 : World} {ai0 as0 : Option Addr} {w w' : World} {s : St} (h : EmSt p m w0 ai0 as0 w s) (hk : Kept (fun _ => False) w w') : EmSt p m w0 ai0 as0 w' s := by
  obtain ⟨ai, ci, asx, cs, E, T⟩ := h
  exact ⟨ai, ci, asx, cs, E.kept hk (fun _ _ h => h), T.kept.trans hk (fun _ _ h => h.elim), T.foot⟩
theorem EmSt.drew {p m : Nat} {w0 : World} {ai0 as0 : Option Addr} {w : World} {s : St} (h : EmSt p m w0 ai0 as0 w s) : EmSt p m w0 ai0 as0 w.drew s := h.still (Kept.refl _ _).drew

theorem EmSt.call {p m n : Nat} {w0 w : World} {ai0 as0 : Option Addr} {g : PG} {c : Nat} {fp : Nat → Prop} {Node : World → Prop} (ok : PartOK n g c fp Node) (hn : Node w0) (ha : ∀ k, fp k → ¬ emF p m ai0 as0 k) {s : St} (h : EmSt p m w0 ai0 as0 w s)
    (hc : s.P.length + c ≤ 4194304) (hL : s.L.length ≤ s.P.length) :
    Calls Try.prog 33 #[.pointer (some ⟨p, 0, none⟩), .pointer (some ⟨n, 0, none⟩), .map (some m)] w fun e w' => e = .returned (.tuple #[]) ∧ EmSt p m w0 ai0 as0 w' (g.step s) := by
  obtain ⟨ai, ci, asx, cs, E, T⟩ := h
  refine (ok.call p m ai ci asx cs s w hc hL E (ok.kept hn T.kept ha) (T.apart (ok.lt hn) ha)).mono ?_
  rintro e w' ⟨rfl, ai', ci', asx', cs', E', T'⟩
  exact ⟨rfl, ai', ci', asx', cs', E', T.trans T'⟩

/-- .. and a list of places beside it, in a slice of the call's own. -/
structure Beside (p m : Nat) (w0 : World) (ai0 as0 : Option Addr) (w : World) (s : St) (v : Value) (sp : List Nat) : Prop where
  ex : ∃ ai ci asx cs, EmAt w p m ai ci asx cs s.P s.L ∧ EmTo p m w0 w ai0 as0 ai asx ∧ (∀ b, v.ownBlock = some b → ¬ emF p m ai asx b)
  own : w.ownsRow 0 21 1 v sp.length (sp.map I32)
  new : ∀ b, v.ownBlock = some b → w0.heap.size ≤ b

theorem Beside.st {p m : Nat} {w0 : World} {ai0 as0 : Option Addr} {w : World} {s : St} {v : Value} {sp : List Nat} (h : Beside p m w0 ai0 as0 w s v sp) : EmSt p m w0 ai0 as0 w s := by
  obtain ⟨ai, ci, asx, cs, E, T, _⟩ := h.ex
  exact ⟨ai, ci, asx, cs, E, T⟩

theorem Beside.still {p m : Nat} {w0 : World} {ai0 as0 : Option Addr} {w w' : World} {s : St} {v : Value} {sp : List Nat} (h : Beside p m w0 ai0 as0 w s v sp) (hk : Kept (fun _ => False) w w') : Beside p m w0 ai0 as0 w' s v sp := by
  obtain ⟨ai, ci, asx, cs, E, T, hd⟩ := h.ex
  exact ⟨⟨ai, ci, asx, cs, E.kept hk (fun _ _ h => h), ⟨T.kept.trans hk (fun _ _ h => h.elim), T.foot⟩, hd⟩, hk.owns h.own (fun _ _ h => h), h.new⟩

theorem Beside.start {p m : Nat} {w0 : World} {ai0 as0 : Option Addr} {w : World} {s : St} (h : EmSt p m w0 ai0 as0 w s) : Beside p m w0 ai0 as0 w s (.slice none 0 0) [] := by
  obtain ⟨ai, ci, asx, cs, E, T⟩ := h
  exact ⟨⟨ai, ci, asx, cs, E, T, fun b e => by simp [Value.ownBlock] at e⟩, World.ownsRow_nil _ _ _ _, fun b e => by simp [Value.ownBlock] at e⟩

/-- The program goes on; the list stays. -/
theorem Beside.on {p m : Nat} {w0 : World} {ai0 as0 : Option Addr} {w w' : World} {s s' : St} {v : Value} {sp : List Nat} {ai ci asx cs ai' ci' asx' cs'} (h : Beside p m w0 ai0 as0 w s v sp)
    (E : EmAt w p m ai ci asx cs s.P s.L) (T : EmTo p m w0 w ai0 as0 ai asx) (hd : ∀ b, v.ownBlock = some b → ¬ emF p m ai asx b) (E' : EmAt w' p m ai' ci' asx' cs' s'.P s'.L) (T' : EmTo p m w w' ai asx ai' asx') : Beside p m w0 ai0 as0 w' s' v sp := by
  have hlt : ∀ k, v.ownBlock = some k → k < w.heap.size := fun k e => (h.own.lt k e).2
  exact ⟨⟨ai', ci', asx', cs', E', T.trans T', T'.apart hlt hd⟩, T'.kept.owns h.own hd, h.new⟩

theorem Beside.call {p m n : Nat} {w0 w : World} {ai0 as0 : Option Addr} {g : PG} {c : Nat} {fp : Nat → Prop} {Node : World → Prop} (ok : PartOK n g c fp Node) (hn : Node w0) (ha : ∀ k, fp k → ¬ emF p m ai0 as0 k) {s : St} {v : Value} {sp : List Nat} (h : Beside p m w0 ai0 as0 w s v sp)
    (hc : s.P.length + c ≤ 4194304) (hL : s.L.length ≤ s.P.length) :
    Calls Try.prog 33 #[.pointer (some ⟨p, 0, none⟩), .pointer (some ⟨n, 0, none⟩), .map (some m)] w fun e w' => e = .returned (.tuple #[]) ∧ Beside p m w0 ai0 as0 w' (g.step s) v sp := by
  obtain ⟨ai, ci, asx, cs, E, T, hd⟩ := h.ex
  refine (ok.call p m ai ci asx cs s w hc hL E (ok.kept hn T.kept ha) (T.apart (ok.lt hn) ha)).mono ?_
  rintro e w' ⟨rfl, ai', ci', asx', cs', E', T'⟩
  exact ⟨rfl, h.on E T hd E' T'⟩

/-- The list is appended to. -/
theorem Beside.push {p m : Nat} {w0 : World} {ai0 as0 : Option Addr} {w wa w1 : World} {s : St} {v : Value} {sp : List Nat} {x g cap H : Nat} (h : Beside p m w0 ai0 as0 w s v sp)
    (hka : Kept (fun _ => False) w wa) (hgr : wa.grownBy w1 v.ownBlock) (hown : w1.ownsRow 0 21 1 (.slice (some ⟨g, 0, none⟩) (sp.length + 1) cap) (sp.length + 1) (sp.map I32 ++ [.int .i32 x])) (hg : v.ownBlock = some g ∨ g = H) (hH : w.heap.size ≤ H) :
    Beside p m w0 ai0 as0 w1 s (.slice (some ⟨g, 0, none⟩) (sp ++ [x]).length cap) (sp ++ [x]) := by
  obtain ⟨ai, ci, asx, cs, E, T, hd⟩ := h.ex
  have hk : Kept (fun k => v.ownBlock = some k) w w1 := (hka.mono (fun _ _ h => h.elim)).grown hgr (fun k e _ => e)
  have hgn : w0.heap.size ≤ g := by
    rcases hg with hg | hg
    · exact h.new g hg
    · have := T.kept.size; omega
  have hgd : ¬ emF p m ai asx g := by
    rcases hg with hg | hg
    · exact hd g hg
    · intro e; have := E.lt g e; omega
  refine ⟨⟨ai, ci, asx, cs, E.kept hk (fun k hk' e => hd k e hk'), ⟨T.kept.trans hk (fun i hi e => by have := h.new i e; omega), T.foot⟩, ?_⟩, ?_, ?_⟩
  · intro b e; simp [Value.ownBlock] at e; subst e; exact hgd
  · simpa [I32] using hown
  · intro b e; simp [Value.ownBlock] at e; subst e; exact hgn

theorem at_same (p : Nat) (ao : Option Addr) (n cap : Nat) (w : World) (hn : n ≤ 2147483647) (h0 : w.cell? ⟨p, 0, none⟩ = some (.slice ao n cap)) :
    Calls Try.prog 38 #[.pointer (some ⟨p, 0, none⟩)] w fun e w' => e = .returned (.int .i32 n) ∧ w = w' :=
  (at_any p ao n cap w hn h0).mono fun e w' ⟨a, b⟩ => ⟨a, b.symm⟩

set_option maxHeartbeats 2000000 in
set_option maxRecDepth 100000 in
theorem emitRepeat_any (p m n : Nat) (g : PG) (c : Nat) (fp : Nat → Prop) (Node : World → Prop) (ok : PartOK n g c fp Node) (least : Nat) (most : Int) (hl : least ≤ 65536) (hm1 : -1 ≤ most) (hm2 : most ≤ 65536) (hlm : most = -1 ∨ (least : Int) ≤ most)
    (s : St) (hL : s.L.length ≤ s.P.length) (hc : s.P.length + least * c + (if most = -1 then c + 2 else (most - least).toNat * (c + 1)) ≤ 4194304)
    (ai : Option Addr) (ci : Nat) (asx : Option Addr) (cs : Nat) (w : World) (h : EmAt w p m ai ci asx cs s.P s.L) (hn : Node w) (ha : ∀ k, fp k → ¬ emF p m ai asx k) :
    Calls Try.prog 32 #[.pointer (some ⟨p, 0, none⟩), .pointer (some ⟨n, 0, none⟩), .int .i64 least, .int .i64 most, .map (some m)] w fun e w' => e = .returned (.tuple #[]) ∧ EmSt p m w ai asx w' (g.repeat s least most) := by
  obtain ⟨i0, hi0, hz0, hz1, hz2⟩ := info_parts Try.info64
  obtain ⟨q0, hq0, hq1, hq2, hq3⟩ := info_parts Try.info21
  have H0 : Hid (EmSt p m w ai asx w s) := ⟨ai, ci, asx, cs, h, EmTo.refl _ _ _ _ _⟩
  have HOK : Hid (PartOK n g c fp Node) := ok
  have HN : Hid (Node w) := hn
  have HA : Hid (∀ k, fp k → ¬ emF p m ai asx k) := ha
  clear ok hn ha h
  go_enter Try.func32, Try.ntmps32
  go_wp2_with fail
  go_loopw [15] (fun i wr => ∃ k : Nat, k ≤ least ∧ i = .int .i64 k ∧ Hid (EmSt p m w ai asx wr (g.rep s k))) (fun i _ => least - (intOf i).toNat)
  case atStart => exact ⟨0, Nat.zero_le _, rfl, H0⟩
  case round =>
    obtain ⟨k, hk, rfl, Hst⟩ := hrel
    by_cases hlt : k < least
    · have hb : (g.rep s k).P.length + c ≤ 4194304 := by
        rw [PG.rep_length HOK.out.sized]
        have : (k + 1) * c ≤ least * c := Nat.mul_le_mul_right _ (by omega)
        rw [Nat.succ_mul] at this
        omega
      have hb2 := PG.rep_sets HOK.out.sized s k hL
      go_wp2_with fail
      refine (EmSt.call HOK.out HN.out HA.out Hst.out hb hb2).mono ?_
      rintro e w1 ⟨rfl, Hst1⟩
      have Hst2 : Hid (EmSt p m w ai asx w1 (g.rep s (k + 1))) := Hst1
      clear Hst1
      go_wp2_with fail
      go_roundw
      case rel => exact ⟨k + 1, by omega, by go_num, Hst2⟩
      case measure => simp [intOf]; omega
    · have hke : k = least := by omega
      subst hke
      have hb2 := PG.rep_sets HOK.out.sized s k hL
      have hlen := PG.rep_length HOK.out.sized s k
      have hszd := HOK.out.sized
      by_cases hmost : most = -1
      · subst hmost
        have HG : Hid (g.repeat s k (-1) = g.loopEnd (g.rep s k)) := by simp [Hid, PG.repeat]
        simp only [if_true] at hc
        generalize g.rep s k = s1 at *
        have hs1 : s1.P.length + c + 2 ≤ 4194304 := by omega
        clear hlen hc hlm hm1 hm2
        obtain ⟨ai1, ci1, asx1, cs1, E1, T1⟩ := Hst.out
        have c0 := E1.cell0
        have HE1 : Hid (EmAt wr p m ai1 ci1 asx1 cs1 s1.P s1.L) := E1
        have HT1 : Hid (EmTo p m w wr ai asx ai1 asx1) := T1
        have hpw : p < wr.heap.size := lt_of_block E1.head
        clear E1 T1 Hst H0
        go_wp2_with fail
        refine (at_same p ai1 s1.P.length ci1 _ (by omega) c0).mono ?_
        rintro e w1 ⟨rfl, rfl⟩
        go_wp2_with (at_builtin; refine wpList_append_lies _ rfl _ _ 57 rfl 0 64 i0 (.agg #[.int .u8 0, .int .i32 0, .int .i32 0]) 3 12 Try.underlying57 hi0 hz0 hz1 hz2 rfl (by decide) (.slice ai1 s1.P.length ci1) s1.P.length (irow s1.P) rfl (HE1.out.rowI.alloc _) ⟨wr.heap.size, 0, none⟩ 1 1 [.int .u8 1, .int .i32 0, .int .i32 (s1.P.length + 1)] rfl rfl (World.news_of_block (heap_alloc_new wr _)) (by intro u hu; simp at hu; rcases hu with rfl | rfl | rfl <;> rfl) (by decide) (by unfold maxLen; omega) (by omega) (Nat.zero_le _) (wr.heap.size + 1) (by simp) ?_)
        intro g2 cap2 w2 hown2 hgr2 hg2 hlt2
        obtain ⟨⟨E2, T2⟩, r2, r3⟩ := HE1.out.pushed ⟨1, 0, s1.P.length + 1⟩ rfl ((Kept.refl _ wr).alloc _) hgr2 hown2 hg2 (by omega)
        have Hst2 : Hid (EmSt p m w ai asx (w2.setCell ⟨p, 0, none⟩ (.slice (some ⟨g2, 0, none⟩) (s1.P.length + 1) cap2)) (s1.push ⟨1, 0, s1.P.length + 1⟩)) := ⟨_, _, _, _, E2, HT1.out.trans T2⟩
        clear hown2 hgr2 hg2 hlt2 E2 T2
        go_wp2_with fail
        refine (EmSt.call HOK.out HN.out HA.out Hst2.out (by simp [St.push]; omega) (by simp [St.push]; omega)).mono ?_
        rintro e w3 ⟨rfl, Hst3⟩
        have l3 := PG.step_length hszd (s1.push ⟨1, 0, s1.P.length + 1⟩)
        have l3' : (s1.push ⟨1, 0, s1.P.length + 1⟩).P.length = s1.P.length + 1 := by simp [St.push]
        rw [l3'] at l3
        have HG3 : Hid (g.loopEnd s1 = ⟨setArg ((g.step (s1.push ⟨1, 0, s1.P.length + 1⟩)).P.length + 1) ((g.step (s1.push ⟨1, 0, s1.P.length + 1⟩)).P ++ [⟨2, 0, s1.P.length⟩]) s1.P.length, (g.step (s1.push ⟨1, 0, s1.P.length + 1⟩)).L⟩) := by simp [Hid, PG.loopEnd, St.push]
        clear l3' Hst2 r2 r3 c0
        generalize g.step (s1.push ⟨1, 0, s1.P.length + 1⟩) = s3 at *
        obtain ⟨ai3, ci3, asx3, cs3, E3, T3⟩ := Hst3
        have c0 := E3.cell0
        have HE3 : Hid (EmAt w3 p m ai3 ci3 asx3 cs3 s3.P s3.L) := E3
        have HT3 : Hid (EmTo p m w w3 ai asx ai3 asx3) := T3
        have L3 : Hid (s3.P.length = s1.P.length + 1 + c) := l3
        have hs3 : s3.P.length ≤ 4194303 := by omega
        have hs31 : s1.P.length < s3.P.length := by omega
        clear E3 T3 l3
        go_wp2_with (at_builtin; refine wpList_append_lies _ rfl _ _ 57 rfl 0 64 i0 (.agg #[.int .u8 0, .int .i32 0, .int .i32 0]) 3 12 Try.underlying57 hi0 hz0 hz1 hz2 rfl (by decide) (.slice ai3 s3.P.length ci3) s3.P.length (irow s3.P) rfl (HE3.out.rowI.alloc _) ⟨w3.heap.size, 0, none⟩ 1 1 [.int .u8 2, .int .i32 0, .int .i32 s1.P.length] rfl rfl (World.news_of_block (heap_alloc_new w3 _)) (by intro u hu; simp at hu; rcases hu with rfl | rfl | rfl <;> rfl) (by decide) (by unfold maxLen; omega) (by omega) (Nat.zero_le _) (w3.heap.size + 1) (by simp) ?_)
        intro g4 cap4 w4 hown4 hgr4 hg4 hlt4
        obtain ⟨⟨E4, T4⟩, r4, r5⟩ := HE3.out.pushed ⟨2, 0, s1.P.length⟩ rfl ((Kept.refl _ w3).alloc _) hgr4 hown4 hg4 (by omega)
        clear hown4 hgr4 hg4 hlt4
        go_wp2_with fail
        generalize w4.setCell ⟨p, 0, none⟩ (.slice (some ⟨g4, 0, none⟩) (s3.P.length + 1) cap4) = w5 at *
        have l5 : (s3.P ++ [({ op := 2, arg := 0, next := s1.P.length } : I)]).length = s3.P.length + 1 := by simp
        have c5 := E4.cell0
        rw [l5] at c5
        obtain ⟨i5, hi5⟩ : ∃ i, (s3.P ++ [({ op := 2, arg := 0, next := s1.P.length } : I)])[s1.P.length]? = some i := ⟨_, List.getElem?_eq_getElem (by omega)⟩
        have c6 := (E4.cellI hi5).2.1
        have f6 := E4.freeI (s1.P.length * 3 + 1)
        obtain ⟨E6, T6⟩ := E4.patch (P' := setArg (s3.P.length + 1) (s3.P ++ [({ op := 2, arg := 0, next := s1.P.length } : I)]) s1.P.length) (s1.P.length * 3 + 1) (.int .i32 ((s3.P.length : Int) + 1)) (by rw [setArg_length]) (irow_setArg _ _ _)
        have HF : Hid (EmSt p m w ai asx (w5.setCell ⟨g4, s1.P.length * 3 + 1, none⟩ (.int .i32 ((s3.P.length : Int) + 1))) (g.repeat s k (-1))) := by
          rw [Hid, HG.out, HG3.out]
          exact ⟨_, _, _, _, E6, (HT3.out.trans T4).trans T6⟩
        have HC : Hid (w5.cell? ⟨p, 0, none⟩ = some (.slice (some ⟨g4, 0, none⟩) (s3.P.length + 1) cap4)) := c5
        clear E4 E6 T4 T6 l5 hi5 r4 r5 c0
        have hidx : (s1.P.length : Int) < (s3.P.length : Int) + 1 := by omega
        go_region_law (go_simp; go_at_call 38; refine (at_same p (some ⟨g4, 0, none⟩) (s3.P.length + 1) cap4 _ (by omega) (by exact HC.out)).mono ?_; rintro e w' ⟨rfl, rfl⟩)
        all_goals go_wp2_with fail
        all_goals refine bodyPost_ret (results_none rfl _ _ _) rfl ?_
        all_goals exact ⟨rfl, HF.out.drew⟩
      · have hmne : (most == -1) = false := by rw [beq_eq_false_iff_ne]; exact hmost
        obtain ⟨K, hK⟩ : ∃ K : Nat, (K : Int) = most - k := ⟨(most - k).toNat, by omega⟩
        have hKt : (most - (k : Int)).toNat = K := by omega
        rw [if_neg hmost, hKt] at hc
        have HG : Hid (g.repeat s k most = g.optEnd (g.rep s k) K) := by simp [Hid, PG.repeat, hmost, hKt]
        have HK : Hid ((K : Int) = most - k) := hK
        have hKb : K ≤ 65536 := by omega
        clear hKt
        generalize g.rep s k = s1 at *
        have hs1 : s1.P.length + K * (c + 1) ≤ 4194304 := by omega
        have B0 : Hid (Beside p m w ai asx wr s1 (.slice none 0 0) []) := Beside.start Hst.out
        have HLL : Hid (s1.L.length ≤ s1.P.length) := hb2
        clear Hst hlen hc H0 hK hb2
        go_wp2_with fail
        go_loopw [11, 65] (fun v i wq => ∃ (j : Nat) (ao : Option Addr) (cp : Nat), j ≤ K ∧ i = .int .i64 j ∧ v = .slice ao (g.opt s1 j).2.length cp ∧ Hid (Beside p m w ai asx wq (g.opt s1 j).1 (.slice ao (g.opt s1 j).2.length cp) (g.opt s1 j).2)) (fun _ i _ => K - (intOf i).toNat)
        case atStart => exact ⟨0, none, 0, Nat.zero_le _, rfl, rfl, B0⟩
        case round =>
          clear B0
          obtain ⟨j, ao, cp, hj, rfl, rfl, HB⟩ := hrel
          by_cases hjK : j < K
          · have hjl := PG.opt_length hszd s1 j
            have hjs := PG.opt_sets hszd s1 j HLL.out
            have hjp := PG.opt_splits_length g s1 j
            have hmul : (j + 1) * (c + 1) ≤ K * (c + 1) := Nat.mul_le_mul_right _ (by omega)
            rw [Nat.succ_mul] at hmul
            have hjb : (g.opt s1 j).1.P.length + c + 1 ≤ 4194304 := by omega
            have HS2 : Hid (g.opt s1 (j + 1) = (g.step ((g.opt s1 j).1.push ⟨1, 0, (g.opt s1 j).1.P.length + 1⟩), (g.opt s1 j).2 ++ [(g.opt s1 j).1.P.length])) := rfl
            have Hjp : Hid ((g.opt s1 j).2.length = j) := hjp
            have hjp2 : (g.opt s1 j).2.length ≤ 65536 := by omega
            clear hjl hmul hjp
            generalize (g.opt s1 j).1 = s2 at *
            generalize (g.opt s1 j).2 = sp at *
            obtain ⟨ai1, ci1, asx1, cs1, E1, T1, D1⟩ := HB.out.ex
            have c0 := E1.cell0
            have hlt1 : (j : Int) < most - k := by have := HK.out; omega
            have hpw : p < wr.heap.size := lt_of_block E1.head
            have HO : Hid (wr.ownsRow 0 21 1 (.slice ao sp.length cp) sp.length (sp.map I32)) := HB.out.own
            clear E1 T1 D1
            go_wp2_with fail
            refine (at_same p ai1 s2.P.length ci1 _ (by omega) c0).mono ?_
            rintro e w1 ⟨rfl, rfl⟩
            go_wp2_with (at_builtin; refine wpList_append_lies _ rfl _ _ 69 rfl 0 21 q0 (.int .i32 0) 1 4 Try.underlying69 hq0 hq1 hq2 hq3 rfl (by decide) (.slice ao sp.length cp) sp.length (sp.map I32) rfl (HO.out.alloc _) ⟨wr.heap.size, 0, none⟩ 1 1 [.int .i32 s2.P.length] rfl rfl (cell_one_new _ _ _) (by intro u hu; simp at hu; subst hu; rfl) (by decide) (by unfold maxLen; omega) (by omega) (Nat.zero_le _) (wr.heap.size + 1) (by simp) ?_)
            intro g5 cap5 w5 hown5 hgr5 hg5 hlt5
            have HB5 : Hid (Beside p m w ai asx w5 s2 (.slice (some ⟨g5, 0, none⟩) (sp ++ [s2.P.length]).length cap5) (sp ++ [s2.P.length])) := HB.out.push ((Kept.refl _ wr).alloc _) hgr5 hown5 hg5 (by omega)
            clear hown5 hgr5 hg5 hlt5 HO HB c0 hpw
            obtain ⟨ai2, ci2, asx2, cs2, E2, T2, D2⟩ := HB5.out.ex
            have c0 := E2.cell0
            have f0 := E2.free 0
            have hpw : p < w5.heap.size := lt_of_block E2.head
            have HE2 : Hid (EmAt w5 p m ai2 ci2 asx2 cs2 s2.P s2.L) := E2
            have HT2 : Hid (EmTo p m w w5 ai asx ai2 asx2) := T2
            have HD2 : Hid (∀ b, (Value.slice (some ⟨g5, 0, none⟩) (sp ++ [s2.P.length]).length cap5).ownBlock = some b → ¬ emF p m ai2 asx2 b) := D2
            clear E2 T2 D2
            have hwr := wrap_succ (n := s2.P.length) (by omega)
            have hs2b : s2.P.length ≤ 4194304 := by omega
            go_wp2_with fail
            go_region_law (first
              | (go_simp; go_at_call 38; refine (at_same p ai2 s2.P.length ci2 _ (by omega) (by simpa using c0)).mono ?_; rintro e w' ⟨rfl, rfl⟩)
              | (refine step_append_lies _ (by rfl) _ _ 57 (by rfl) 0 64 i0 (.agg #[.int .u8 0, .int .i32 0, .int .i32 0]) 3 12 Try.underlying57 hi0 hz0 hz1 hz2 rfl (by decide) (.slice ai2 s2.P.length ci2) s2.P.length (irow s2.P) (by rfl) (HE2.out.rowI.alloc _) ⟨w5.heap.size, 0, none⟩ 1 1 [.int .u8 1, .int .i32 0, .int .i32 (s2.P.length + 1)] (by rfl) (by rfl) (World.news_of_block (heap_alloc_new w5 _)) (by intro u hu; simp at hu; rcases hu with rfl | rfl | rfl <;> rfl) (by decide) (by unfold maxLen; omega) (by omega) (Nat.zero_le _) (w5.heap.size + 1) (by simp) ?_; intro g6 cap6 w6 hown hgr hg hlt; obtain ⟨r1, r2, r3⟩ := HE2.out.pushed ⟨1, 0, s2.P.length + 1⟩ rfl ((Kept.refl _ w5).alloc _).drew hgr hown hg (by omega)))
            all_goals
              have HB6 := HB5.out.on (s' := s2.push ⟨1, 0, s2.P.length + 1⟩) HE2.out HT2.out HD2.out r1.1 r1.2
              clear hown hgr hg hlt r1 r2 r3 HB5 HE2 HT2 HD2 hwr c0 f0 hpw
              generalize w6.setCell ⟨p, 0, none⟩ (.slice (some ⟨g6, 0, none⟩) (s2.P.length + 1) cap6) = w7 at *
              go_wp2_with fail
              refine (Beside.call HOK.out HN.out HA.out HB6 (by simp [St.push]; omega) (by simp [St.push]; omega)).mono ?_
              rintro e w8 ⟨rfl, HB8⟩
              have HB9 : Hid (Beside p m w ai asx w8 (g.opt s1 (j + 1)).1 (.slice (some ⟨g5, 0, none⟩) (g.opt s1 (j + 1)).2.length cap5) (g.opt s1 (j + 1)).2) := by
                rw [Hid, HS2.out]
                exact HB8
              have HL9 : Hid ((g.opt s1 (j + 1)).2.length = sp.length + 1) := by
                rw [Hid, HS2.out]
                simp
              clear HB8 HB6
              go_wp2_with fail
              go_roundw
              case rel => exact ⟨j + 1, some ⟨g5, 0, none⟩, cap5, by omega, by go_num, by rw [HL9.out], HB9⟩
              case measure => simp [intOf]; omega
          · have hje : j = K := by omega
            subst hje
            have hlt1 : ¬ (j : Int) < most - k := by have := HK.out; omega
            have hjl := PG.opt_length hszd s1 j
            have hjp := PG.opt_splits_length g s1 j
            have HSL : Hid (∀ x ∈ (g.opt s1 j).2, x < (g.opt s1 j).1.P.length) := PG.opt_splits_lt hszd s1 j
            have HG2 : Hid (g.repeat s k most = ⟨patchArgs (g.opt s1 j).1.P (g.opt s1 j).2 (g.opt s1 j).1.P.length, (g.opt s1 j).1.L⟩) := HG.out
            have hjb : (g.opt s1 j).1.P.length ≤ 4194304 := by omega
            have hjp2 : (g.opt s1 j).2.length ≤ 65536 := by omega
            clear hjl HG hjp
            generalize (g.opt s1 j).1 = s2 at *
            generalize (g.opt s1 j).2 = sp at *
            by_cases hsp0 : sp.length = 0
            · have hspn : sp = [] := List.eq_nil_of_length_eq_zero hsp0
              have HF : Hid (EmSt p m w ai asx wr (g.repeat s k most)) := by
                rw [Hid, HG2.out, hspn]
                exact HB.out.st
              have hz : ((sp.length : Nat) : Int) = 0 := by omega
              clear HG2 HB HSL hspn hsp0
              go_wp2_with fail
              go_loop [92] (fun i => i = .int .i64 0) (fun _ => 0)
              case atStart => rfl
              case round =>
                obtain rfl := hrel
                go_wp2_with fail
                go_end0
                exact ⟨rfl, HF⟩
            · obtain ⟨gs, hgs⟩ : ∃ gs, ao = some ⟨gs, 0, none⟩ := by
                rcases HB.out.own.2 with ⟨_, h0⟩ | ⟨gs, cap, cur, hv, _⟩
                · exact (hsp0 h0).elim
                · simp at hv; exact ⟨gs, hv.1⟩
              subst hgs
              have B1 : Hid (Beside p m w ai asx wr ⟨patchArgs s2.P (sp.take 0) s2.P.length, s2.L⟩ (.slice (some ⟨gs, 0, none⟩) sp.length cp) sp) := by
                simpa [patchArgs] using HB
              clear HB hsp0
              go_wp2_with fail
              go_loopw [92] (fun i wq => ∃ q : Nat, q ≤ sp.length ∧ i = .int .i64 q ∧ Hid (Beside p m w ai asx wq ⟨patchArgs s2.P (sp.take q) s2.P.length, s2.L⟩ (.slice (some ⟨gs, 0, none⟩) sp.length cp) sp)) (fun i _ => sp.length - (intOf i).toNat)
              case atStart => exact ⟨0, Nat.zero_le _, rfl, B1⟩
              case round =>
                clear B1
                obtain ⟨q, hq, rfl, HB⟩ := hrel
                by_cases hqs : q < sp.length
                · have hxl := HSL.out _ (List.getElem_mem hqs)
                  have hcx : wr.cell? ⟨gs, q, none⟩ = some (.int .i32 (sp[q]'hqs)) := by
                    rw [HB.out.own.cellAt q (by omega)]
                    simp [I32, hqs]
                  have HX : Hid (sp.take (q + 1) = sp.take q ++ [sp[q]'hqs]) := List.take_succ_eq_append_getElem hqs
                  have HPL : Hid ((patchArgs s2.P (sp.take q) s2.P.length).length = s2.P.length) := patchArgs_length _ _ _
                  have HPS : Hid (patchArgs s2.P (sp.take (q + 1)) s2.P.length = setArg s2.P.length (patchArgs s2.P (sp.take q) s2.P.length) (sp[q]'hqs)) := by
                    rw [Hid, HX.out, patchArgs_snoc]
                  generalize sp[q]'hqs = x at *
                  generalize patchArgs s2.P (sp.take q) s2.P.length = P2 at *
                  obtain ⟨ai2, ci2, asx2, cs2, E2, T2, D2⟩ := HB.out.ex
                  have E2' : EmAt wr p m ai2 ci2 asx2 cs2 P2 s2.L := E2
                  obtain ⟨gi, hgi⟩ := E2'.form (by rw [HPL.out]; omega)
                  subst hgi
                  have c0 := E2'.cell0
                  rw [HPL.out] at c0
                  obtain ⟨i5, hi5⟩ : ∃ i, P2[x]? = some i := ⟨_, List.getElem?_eq_getElem (by rw [HPL.out]; exact hxl)⟩
                  have c6 := (E2'.cellI hi5).2.1
                  have f6 := E2'.freeI (x * 3 + 1)
                  obtain ⟨E6, T6⟩ := E2'.patch (P' := setArg s2.P.length P2 x) (x * 3 + 1) (.int .i32 s2.P.length) (by rw [setArg_length]) (irow_setArg _ _ _)
                  have HB6 : Hid (Beside p m w ai asx (wr.setCell ⟨gi, x * 3 + 1, none⟩ (.int .i32 s2.P.length)) ⟨patchArgs s2.P (sp.take (q + 1)) s2.P.length, s2.L⟩ (.slice (some ⟨gs, 0, none⟩) sp.length cp) sp) := by
                    have E7 : EmAt (wr.setCell ⟨gi, x * 3 + 1, none⟩ (.int .i32 s2.P.length)) p m (some ⟨gi, 0, none⟩) ci2 asx2 cs2 (patchArgs s2.P (sp.take (q + 1)) s2.P.length) s2.L := by
                      rw [HPS.out]
                      exact E6
                    exact HB.out.on (s' := ⟨patchArgs s2.P (sp.take (q + 1)) s2.P.length, s2.L⟩) E2 T2 D2 E7 T6
                  have HC : Hid (wr.cell? ⟨p, 0, none⟩ = some (.slice (some ⟨gi, 0, none⟩) s2.P.length ci2)) := c0
                  have hidx : (x : Int) < (s2.P.length : Int) := by omega
                  clear E2 E2' T2 D2 E6 T6 hi5 HB HPL HPS HX
                  go_wp2_with fail
                  go_region_law (go_simp; go_at_call 38; refine (at_same p (some ⟨gi, 0, none⟩) s2.P.length ci2 _ (by omega) (by exact HC.out)).mono ?_; rintro e w' ⟨rfl, rfl⟩)
                  all_goals
                    go_wp2_with fail
                    go_roundw
                    case rel => exact ⟨q + 1, by omega, by go_num, HB6.out.still (Kept.refl _ _).drew⟩
                    case measure => simp [intOf]; omega
                · have hqe : q = sp.length := by omega
                  subst hqe
                  have HF : Hid (EmSt p m w ai asx wr (g.repeat s k most)) := by
                    rw [Hid, HG2.out]
                    have := HB.out.st
                    rwa [List.take_length] at this
                  clear HB
                  go_wp2_with fail
                  go_end0
                  exact ⟨rfl, HF⟩
end Go.Proofs.Qxb6000456a
