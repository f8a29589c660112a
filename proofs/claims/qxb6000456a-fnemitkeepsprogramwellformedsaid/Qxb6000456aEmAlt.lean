import Derived.Test.Qxb6000456aAltLaw
import Derived.Test.Qxb6000456aEmSeq
namespace Go.Proofs.Qxb6000456a
open Go.RowKit
set_option linter.unusedVariables false
set_option linter.unusedSimpArgs false

/-! ### the emitter's states on the way -/
def altSt (s : St) (zs : List (List S4)) (y : List S4) (k : Nat) : St :=
  if k ≤ zs.length then ⟨s.P ++ preCode 0 (zs.take k) s.P.length s.L, preSets (zs.take k) s.L⟩
  else ⟨s.P ++ preCode 0 zs s.P.length s.L ++ seqCode y (s.P.length + preLen zs) (preSets zs s.L), y.foldl addSet (preSets zs s.L)⟩

theorem altSt_zero (s : St) (zs : List (List S4)) (y : List S4) : altSt s zs y 0 = s := by simp [altSt, preCode, preSets]

theorem altSt_len (s : St) (zs : List (List S4)) (y : List S4) (k : Nat) (hk : k ≤ zs.length) : (altSt s zs y k).P.length = s.P.length + preLen (zs.take k) := by
  simp [altSt, hk, preCode_length]
theorem altSt_sets (s : St) (zs : List (List S4)) (y : List S4) (hs : s.L.length ≤ s.P.length) (k : Nat) (hk : k ≤ zs.length) : (altSt s zs y k).L.length ≤ (altSt s zs y k).P.length := by
  rw [altSt_len s zs y k hk]
  have := preSets_length (zs.take k) s.L
  simp only [altSt, hk, if_true]
  omega

theorem altSt_next (s : St) (zs : List (List S4)) (y z : List S4) (k : Nat) (hk : zs[k]? = some z) (s2 : St) (h2 : s2 = (seqG z).step ((altSt s zs y k).push ⟨1, 0, (altSt s zs y k).P.length + 1⟩)) :
    altSt s zs y (k + 1) = ⟨setArg (s2.P.length + 1) (s2.P ++ [⟨2, 0, 0⟩]) (altSt s zs y k).P.length, s2.L⟩ ∧ preJ (zs.take (k + 1)) s.P.length = preJ (zs.take k) s.P.length ++ [s2.P.length] := by
  have hlt : k < zs.length := (List.getElem?_eq_some_iff.1 hk).1
  have htk : zs.take (k + 1) = zs.take k ++ [z] := by rw [List.take_add_one, hk]; rfl
  have e0 : (altSt s zs y k).P = s.P ++ preCode 0 (zs.take k) s.P.length s.L := by simp [altSt, Nat.le_of_lt hlt]
  have eL : (altSt s zs y k).L = preSets (zs.take k) s.L := by simp [altSt, Nat.le_of_lt hlt]
  have hl := altSt_len s zs y k (Nat.le_of_lt hlt)
  have h2P : s2.P = (altSt s zs y k).P ++ ⟨1, 0, (altSt s zs y k).P.length + 1⟩ :: seqCode z ((altSt s zs y k).P.length + 1) (altSt s zs y k).L := by
    rw [h2]; simp [PG.step, St.push, seqG]
  have h2L : s2.L = z.foldl addSet (altSt s zs y k).L := by rw [h2]; rfl
  have h2l : s2.P.length = (altSt s zs y k).P.length + 1 + z.length := by rw [h2P]; simp [seqCode_length]; omega
  constructor
  · rw [h2l]
    have e1 : s2.P ++ [⟨2, 0, 0⟩] = (altSt s zs y k).P ++ ⟨1, 0, (altSt s zs y k).P.length + 1⟩ :: (seqCode z ((altSt s zs y k).P.length + 1) (altSt s zs y k).L ++ [⟨2, 0, 0⟩]) := by rw [h2P]; simp
    rw [e1, setArg_mid, h2L, eL, hl, e0]
    rw [show s.P.length + preLen (zs.take k) + 1 + z.length + 1 = s.P.length + preLen (zs.take k) + z.length + 2 from by omega]
    unfold altSt
    rw [if_pos (by omega), htk, preCode_snoc, preSets_snoc]
    simp [altBlock]
  · rw [htk, preJ_snoc, h2l, hl]
    congr 2
    omega

theorem altSt_last (s : St) (zs : List (List S4)) (y : List S4) : altSt s zs y (zs.length + 1) = (seqG y).step (altSt s zs y zs.length) := by
  unfold altSt
  rw [if_neg (by omega), if_pos (Nat.le_refl _), List.take_length]
  simp [PG.step, seqG, preCode_length]

theorem altSt_end (s : St) (zs : List (List S4)) (y : List S4) :
    (⟨patchNexts (altSt s zs y (zs.length + 1)).P (preJ zs s.P.length) (altSt s zs y (zs.length + 1)).P.length, (altSt s zs y (zs.length + 1)).L⟩ : St) = (altG zs y).step s := by
  have hl : (altSt s zs y (zs.length + 1)).P.length = s.P.length + (preLen zs + y.length) := by
    rw [altSt_last, PG.step_length (seqG_sized y), altSt_len _ _ _ _ (Nat.le_refl _), List.take_length]; omega
  rw [hl]
  unfold altSt
  rw [if_neg (by omega)]
  simp only [PG.step, altG]
  rw [patch_pre]
  simp

/-! ### memory -/
/-- An alternation of sequences; fp: the blocks that it lies in. -/
structure AltAt (w : World) (n : Nat) (a : Option Addr) (cap : Nat) (bs : List Nat) (ys : List (List S4)) (fp : Nat → Prop) : Prop where
  node : NodeAt w n 2 a cap bs
  len : bs.length = ys.length
  fn : fp n
  fa : ∀ k, ownOf a = some k → fp k
  lt : ∀ k, fp k → k < w.heap.size
  parts : ∀ (i b : Nat) (y : List S4), bs[i]? = some b → ys[i]? = some y → ∃ a' cap' bs', SeqAt w b a' cap' bs' y ∧ ∀ k, seqF b a' bs' k → fp k

theorem AltAt.kept {F : Nat → Prop} {w w' : World} {n : Nat} {a : Option Addr} {cap : Nat} {bs : List Nat} {ys : List (List S4)} {fp : Nat → Prop} (h : AltAt w n a cap bs ys fp) (hk : Kept F w w') (hF : ∀ k, fp k → ¬ F k) : AltAt w' n a cap bs ys fp := by
  refine ⟨h.node.kept hk (hF n h.fn) (fun k e => hF k (h.fa k e)), h.len, h.fn, h.fa, fun k hf => Nat.lt_of_lt_of_le (h.lt k hf) hk.size, ?_⟩
  intro i b y hb hy
  obtain ⟨a', cap', bs', h1, h2⟩ := h.parts i b y hb hy
  exact ⟨a', cap', bs', h1.kept hk (fun k hf => hF k (h2 k hf)), h2⟩

theorem Beside.keptW {p m : Nat} {w0 : World} {ai0 as0 : Option Addr} {w : World} {s : St} {v : Value} {sp : List Nat} (h : Beside p m w0 ai0 as0 w s v sp) : Kept (emF p m ai0 as0) w0 w := h.st.keptW

set_option maxHeartbeats 4000000 in
set_option maxRecDepth 100000 in
theorem emit_alt (p m n : Nat) (a : Option Addr) (cap : Nat) (bs : List Nat) (zs : List (List S4)) (y : List S4) (fp : Nat → Prop) (hx : ∀ z ∈ zs ++ [y], ∀ x ∈ z, x.Wf) (ai : Option Addr) (ci : Nat) (asx : Option Addr) (cs : Nat) (s : St) (w : World)
    (hc : s.P.length + (preLen zs + y.length) ≤ 4194304) (hzs : zs.length ≤ 4194304) (hL : s.L.length ≤ s.P.length) (h : EmAt w p m ai ci asx cs s.P s.L) (hn : AltAt w n a cap bs (zs ++ [y]) fp) (ha : ∀ k, fp k → ¬ emF p m ai asx k) :
    Calls Try.prog 33 #[.pointer (some ⟨p, 0, none⟩), .pointer (some ⟨n, 0, none⟩), .map (some m)] w fun e w' => e = .returned (.tuple #[]) ∧ EmSt p m w ai asx w' ((altG zs y).step s) := by
  obtain ⟨i0, hi0, hz0, hz1, hz2⟩ := info_parts Try.info64
  obtain ⟨q0, hq0, hq1, hq2, hq3⟩ := info_parts Try.info21
  have H0 : Hid (Beside p m w ai asx w (altSt s zs y 0) (.slice none 0 0) (preJ (zs.take 0) s.P.length)) := by
    rw [Hid, altSt_zero]
    exact Beside.start ⟨ai, ci, asx, cs, h, EmTo.refl _ _ _ _ _⟩
  have HN : Hid (AltAt w n a cap bs (zs ++ [y]) fp) := hn
  have HA : Hid (∀ k, fp k → ¬ emF p m ai asx k) := ha
  have HX : Hid (∀ z ∈ zs ++ [y], ∀ x ∈ z, x.Wf) := hx
  have n0 := hn.node.kindC
  have n5 := hn.node.subsC
  have hbl : bs.length = zs.length + 1 := by rw [hn.len]; simp
  obtain ⟨g, rfl⟩ := hn.node.form (by omega)
  clear h hn ha hx
  go_enter Try.func33, Try.ntmps33
  go_wp2_with fail
  go_loopw [10, 95] (fun v i wr => ∃ (k : Nat) (ao : Option Addr) (cp : Nat), k ≤ bs.length ∧ i = .int .i64 k ∧ v = .slice ao (preJ (zs.take k) s.P.length).length cp ∧ Hid (Beside p m w ai asx wr (altSt s zs y k) (.slice ao (preJ (zs.take k) s.P.length).length cp) (preJ (zs.take k) s.P.length))) (fun _ i _ => bs.length - (intOf i).toNat)
  case atStart => exact ⟨0, none, 0, Nat.zero_le _, rfl, rfl, H0⟩
  case round =>
    obtain ⟨k, ao, cp, hk, rfl, rfl, HB⟩ := hrel
    have HNr : Hid (AltAt wr n (some ⟨g, 0, none⟩) cap bs (zs ++ [y]) fp) := HN.out.kept HB.out.keptW HA.out
    clear n0 n5 H0
    have n5 := HNr.out.node.subsC
    by_cases hlt : k < zs.length
    · have hkb : k < bs.length := by omega
      obtain ⟨b, hb⟩ : ∃ b, bs[k]? = some b := ⟨_, List.getElem?_eq_getElem hkb⟩
      obtain ⟨z, hz⟩ : ∃ z, zs[k]? = some z := ⟨_, List.getElem?_eq_getElem hlt⟩
      have hz' : (zs ++ [y])[k]? = some z := by rw [List.getElem?_append_left hlt]; exact hz
      obtain ⟨a', cap', bs', hsq, hsf⟩ := HN.out.parts k b z hb hz'
      have cb := HNr.out.node.partC hb
      have HP : Hid (PartOK b (seqG z) z.length (seqF b a' bs') (fun w => SeqAt w b a' cap' bs' z)) := seqPart b a' cap' bs' z (HX.out z (List.mem_of_getElem? hz'))
      have HSq : Hid (SeqAt w b a' cap' bs' z) := hsq
      have HSa : Hid (∀ j, seqF b a' bs' j → ¬ emF p m ai asx j) := fun j hj => HA.out j (hsf j hj)
      have HNX := altSt_next s zs y z k hz _ rfl
      have hlen := altSt_len s zs y k (Nat.le_of_lt hlt)
      have hsets := altSt_sets s zs y hL k (Nat.le_of_lt hlt)
      have hjl : (preJ (zs.take k) s.P.length).length ≤ 4194304 := by rw [preJ_length]; simp; omega
      have hpl : preLen (zs.take k) + z.length + 2 ≤ preLen zs := by
        have := preLen_take zs (k + 1)
        rw [List.take_add_one, hz] at this
        simp only [Option.toList_some] at this
        rw [preLen_snoc] at this
        exact this
      have hsb : (altSt s zs y k).P.length + z.length + 2 ≤ 4194304 := by omega
      have HNX2 : Hid (altSt s zs y (k + 1) = _ ∧ preJ (zs.take (k + 1)) s.P.length = _) := HNX
      clear hb hz hz' hsq hsf hlen hpl HNX
      generalize altSt s zs y k = s1 at *
      generalize preJ (zs.take k) s.P.length = sp at *
      obtain ⟨ai1, ci1, asx1, cs1, E1, T1, D1⟩ := HB.out.ex
      have c0 := E1.cell0
      have hpw : p < wr.heap.size := lt_of_block E1.head
      have HE1 : Hid (EmAt wr p m ai1 ci1 asx1 cs1 s1.P s1.L) := E1
      have HT1 : Hid (EmTo p m w wr ai asx ai1 asx1) := T1
      have HD1 : Hid (∀ b, (Value.slice ao sp.length cp).ownBlock = some b → ¬ emF p m ai1 asx1 b) := D1
      have hwr := wrap_succ (n := s1.P.length) (by omega)
      have hlast : (k : Int) < (bs.length : Int) - 1 := by omega
      clear E1 T1 D1
      go_wp2_with fail
      refine (at_same p ai1 s1.P.length ci1 _ (by omega) c0).mono ?_
      rintro e w1 ⟨rfl, rfl⟩
      go_wp2_with (at_builtin; refine wpList_append_lies _ rfl _ _ 57 rfl 0 64 i0 (.agg #[.int .u8 0, .int .i32 0, .int .i32 0]) 3 12 Try.underlying57 hi0 hz0 hz1 hz2 rfl (by decide) (.slice ai1 s1.P.length ci1) s1.P.length (irow s1.P) rfl (HE1.out.rowI.alloc _) ⟨wr.heap.size, 0, none⟩ 1 1 [.int .u8 1, .int .i32 0, .int .i32 (s1.P.length + 1)] rfl rfl (World.news_of_block (heap_alloc_new wr _)) (by intro u hu; simp at hu; rcases hu with rfl | rfl | rfl <;> rfl) (by decide) (by unfold maxLen; omega) (by omega) (Nat.zero_le _) (wr.heap.size + 1) (by simp) ?_)
      intro g2 cap2 w2 hown2 hgr2 hg2 hlt2
      obtain ⟨⟨E2, T2⟩, r2, r3⟩ := HE1.out.pushed ⟨1, 0, s1.P.length + 1⟩ rfl ((Kept.refl _ wr).alloc _) hgr2 hown2 hg2 (by omega)
      have HB2 : Hid (Beside p m w ai asx (w2.setCell ⟨p, 0, none⟩ (.slice (some ⟨g2, 0, none⟩) (s1.P.length + 1) cap2)) (s1.push ⟨1, 0, s1.P.length + 1⟩) (.slice ao sp.length cp) sp) := HB.out.on (s' := s1.push ⟨1, 0, s1.P.length + 1⟩) HE1.out HT1.out HD1.out E2 T2
      clear hown2 hgr2 hg2 hlt2 E2 T2 HE1 HT1 HD1 hwr c0 n5 HNr hpw
      go_wp2_with fail
      refine (Beside.call HP.out HSq.out HSa.out HB2.out (by simp [St.push]; omega) (by simp [St.push]; omega)).mono ?_
      rintro e w3 ⟨rfl, B3⟩
      have HB3 : Hid (Beside p m w ai asx w3 ((seqG z).step (s1.push ⟨1, 0, s1.P.length + 1⟩)) (.slice ao sp.length cp) sp) := B3
      have l3 : ((seqG z).step (s1.push ⟨1, 0, s1.P.length + 1⟩)).P.length = s1.P.length + 1 + z.length := by
        rw [PG.step_length (seqG_sized z)]; simp [St.push]
      have n5 := (HN.out.kept B3.keptW HA.out).node.subsC
      clear B3 r2 r3 HB HB2 cb
      generalize (seqG z).step (s1.push ⟨1, 0, s1.P.length + 1⟩) = s3 at *
      have hs3 : s3.P.length + 1 ≤ 4194304 := by omega
      have hs31 : s1.P.length < s3.P.length := by omega
      clear l3
      obtain ⟨ai3, ci3, asx3, cs3, E3, T3, D3⟩ := HB3.out.ex
      have c0 := E3.cell0
      have hpw : p < w3.heap.size := lt_of_block E3.head
      have HO : Hid (w3.ownsRow 0 21 1 (.slice ao sp.length cp) sp.length (sp.map I32)) := HB3.out.own
      clear E3 T3 D3
      go_wp2_with fail
      refine (at_same p ai3 s3.P.length ci3 _ (by omega) c0).mono ?_
      rintro e w1 ⟨rfl, rfl⟩
      go_wp2_with (at_builtin; refine wpList_append_lies _ rfl _ _ 69 rfl 0 21 q0 (.int .i32 0) 1 4 Try.underlying69 hq0 hq1 hq2 hq3 rfl (by decide) (.slice ao sp.length cp) sp.length (sp.map I32) rfl (HO.out.alloc _) ⟨w3.heap.size, 0, none⟩ 1 1 [.int .i32 s3.P.length] rfl rfl (cell_one_new _ _ _) (by intro u hu; simp at hu; subst hu; rfl) (by decide) (by unfold maxLen; omega) (by omega) (Nat.zero_le _) (w3.heap.size + 1) (by simp) ?_)
      intro g5 cap5 w5 hown5 hgr5 hg5 hlt5
      have HB5 : Hid (Beside p m w ai asx w5 s3 (.slice (some ⟨g5, 0, none⟩) (sp ++ [s3.P.length]).length cap5) (sp ++ [s3.P.length])) := HB3.out.push ((Kept.refl _ w3).alloc _) hgr5 hown5 hg5 (by omega)
      clear hown5 hgr5 hg5 hlt5 HO HB3 c0 hpw n5
      obtain ⟨ai2, ci2, asx2, cs2, E2, T2, D2⟩ := HB5.out.ex
      have c0 := E2.cell0
      have f0 := E2.free 0
      have HE2 : Hid (EmAt w5 p m ai2 ci2 asx2 cs2 s3.P s3.L) := E2
      have HT2 : Hid (EmTo p m w w5 ai asx ai2 asx2) := T2
      have HD2 : Hid (∀ b, (Value.slice (some ⟨g5, 0, none⟩) (sp ++ [s3.P.length]).length cap5).ownBlock = some b → ¬ emF p m ai2 asx2 b) := D2
      clear E2 T2 D2
      go_wp2_with (at_builtin; refine wpList_append_lies _ rfl _ _ 57 rfl 0 64 i0 (.agg #[.int .u8 0, .int .i32 0, .int .i32 0]) 3 12 Try.underlying57 hi0 hz0 hz1 hz2 rfl (by decide) (.slice ai2 s3.P.length ci2) s3.P.length (irow s3.P) rfl (HE2.out.rowI.alloc _) ⟨w5.heap.size, 0, none⟩ 1 1 [.int .u8 2, .int .i32 0, .int .i32 0] rfl rfl (World.news_of_block (heap_alloc_new w5 _)) (by intro u hu; simp at hu; rcases hu with rfl | rfl <;> rfl) (by decide) (by unfold maxLen; omega) (by omega) (Nat.zero_le _) (w5.heap.size + 1) (by simp) ?_)
      intro g6 cap6 w6 hown6 hgr6 hg6 hlt6
      obtain ⟨⟨E6, T6⟩, r6, r7⟩ := HE2.out.pushed ⟨2, 0, 0⟩ rfl ((Kept.refl _ w5).alloc _) hgr6 hown6 hg6 (by omega)
      have B6 := HB5.out.on (s' := s3.push ⟨2, 0, 0⟩) HE2.out HT2.out HD2.out E6 T6
      have HB5lt : ∀ k, (Value.slice (some ⟨g5, 0, none⟩) (sp ++ [s3.P.length]).length cap5).ownBlock = some k → k < w5.heap.size := fun k e => (HB5.out.own.lt k e).2
      clear hown6 hgr6 hg6 hlt6 HB5
      go_wp2_with fail
      generalize w6.setCell ⟨p, 0, none⟩ (.slice (some ⟨g6, 0, none⟩) (s3.P.length + 1) cap6) = w7 at *
      have l5 : (s3.P ++ [({ op := 2, arg := 0, next := 0 } : I)]).length = s3.P.length + 1 := by simp
      have c5 := E6.cell0
      rw [l5] at c5
      obtain ⟨i5, hi5⟩ : ∃ i, (s3.P ++ [({ op := 2, arg := 0, next := 0 } : I)])[s1.P.length]? = some i := ⟨_, List.getElem?_eq_getElem (by omega)⟩
      have c6 := (E6.cellI hi5).2.1
      have f6 := E6.freeI (s1.P.length * 3 + 1)
      obtain ⟨E8, T8⟩ := E6.patch (P' := setArg (s3.P.length + 1) (s3.P ++ [({ op := 2, arg := 0, next := 0 } : I)]) s1.P.length) (s1.P.length * 3 + 1) (.int .i32 ((s3.P.length : Int) + 1)) (by rw [setArg_length]) (irow_setArg _ _ _)
      have HB8 : Hid (Beside p m w ai asx (w7.setCell ⟨g6, s1.P.length * 3 + 1, none⟩ (.int .i32 ((s3.P.length : Int) + 1))) (altSt s zs y (k + 1)) (.slice (some ⟨g5, 0, none⟩) (preJ (zs.take (k + 1)) s.P.length).length cap5) (preJ (zs.take (k + 1)) s.P.length)) := by
        obtain ⟨ea, eb⟩ := HNX2.out
        rw [Hid, ea, eb]
        exact B6.on (s' := ⟨setArg (s3.P.length + 1) (s3.P ++ [({ op := 2, arg := 0, next := 0 } : I)]) s1.P.length, s3.L⟩) E6 (HT2.out.trans T6) (T6.apart (fun k e => (HB5lt k e)) HD2.out) E8 T8
      have HJL : Hid ((preJ (zs.take (k + 1)) s.P.length).length = sp.length + 1) := by
        rw [Hid, HNX2.out.2]; simp
      have HC : Hid (w7.cell? ⟨p, 0, none⟩ = some (.slice (some ⟨g6, 0, none⟩) (s3.P.length + 1) cap6)) := c5
      have hidx : (s1.P.length : Int) < (s3.P.length : Int) + 1 := by omega
      clear E6 E8 T6 T8 B6 l5 hi5 r6 r7 c0 f0 HE2 HT2 HD2 HNX2
      go_region_law (go_simp; go_at_call 38; refine (at_same p (some ⟨g6, 0, none⟩) (s3.P.length + 1) cap6 _ (by omega) (by exact HC.out)).mono ?_; rintro e w' ⟨rfl, rfl⟩)
      all_goals
        go_wp2_with fail
        go_roundw
        case rel => exact ⟨k + 1, some ⟨g5, 0, none⟩, cap5, by omega, by go_num, by rw [HJL.out], HB8.out.still (Kept.refl _ _).drew⟩
        case measure => simp [intOf]; omega
    · by_cases hke : k = zs.length
      · subst hke
        have hkb : zs.length < bs.length := by omega
        obtain ⟨b, hb⟩ : ∃ b, bs[zs.length]? = some b := ⟨_, List.getElem?_eq_getElem hkb⟩
        have hz' : (zs ++ [y])[zs.length]? = some y := by simp
        obtain ⟨a', cap', bs', hsq, hsf⟩ := HN.out.parts zs.length b y hb hz'
        have cb := HNr.out.node.partC hb
        have HP : Hid (PartOK b (seqG y) y.length (seqF b a' bs') (fun w => SeqAt w b a' cap' bs' y)) := seqPart b a' cap' bs' y (HX.out y (List.mem_of_getElem? hz'))
        have HSq : Hid (SeqAt w b a' cap' bs' y) := hsq
        have HSa : Hid (∀ j, seqF b a' bs' j → ¬ emF p m ai asx j) := fun j hj => HA.out j (hsf j hj)
        have HLA : Hid (altSt s zs y (zs.length + 1) = (seqG y).step (altSt s zs y zs.length)) := altSt_last s zs y
        have hlen := altSt_len s zs y zs.length (Nat.le_refl _)
        have hsets := altSt_sets s zs y hL zs.length (Nat.le_refl _)
        have HJ : Hid (preJ (zs.take (zs.length + 1)) s.P.length = preJ (zs.take zs.length) s.P.length) := by
          rw [Hid, List.take_length, List.take_of_length_le (by omega)]
        have hpl : preLen (zs.take zs.length) = preLen zs := by rw [List.take_length]
        have hsb : (altSt s zs y zs.length).P.length + y.length ≤ 4194304 := by omega
        clear hb hz' hsq hsf hlen hpl
        generalize altSt s zs y zs.length = s1 at *
        generalize preJ (zs.take zs.length) s.P.length = sp at *
        obtain ⟨ai1, ci1, asx1, cs1, E1, T1, D1⟩ := HB.out.ex
        have c0 := E1.cell0
        clear E1 T1 D1
        have hlast : ¬ (zs.length : Int) < (bs.length : Int) - 1 := by omega
        go_wp2_with fail
        refine (at_same p ai1 s1.P.length ci1 _ (by omega) c0).mono ?_
        rintro e w1 ⟨rfl, rfl⟩
        go_wp2_with fail
        refine (Beside.call HP.out HSq.out HSa.out HB.out hsb hsets).mono ?_
        rintro e w3 ⟨rfl, B3⟩
        have HB3 : Hid (Beside p m w ai asx w3 (altSt s zs y (zs.length + 1)) (.slice ao (preJ (zs.take (zs.length + 1)) s.P.length).length cp) (preJ (zs.take (zs.length + 1)) s.P.length)) := by
          rw [Hid, HLA.out, HJ.out]; exact B3
        have n5 := (HN.out.kept B3.keptW HA.out).node.subsC
        have HJ2 : Hid ((preJ (zs.take (zs.length + 1)) s.P.length).length = sp.length) := by rw [Hid, HJ.out]
        clear B3 HJ HLA
        go_wp2_with fail
        go_roundw
        case rel => exact ⟨zs.length + 1, ao, cp, by omega, by go_num, by rw [HJ2.out], HB3⟩
        case measure => simp [intOf]; omega
      · have hke2 : k = zs.length + 1 := by omega
        subst hke2
        have htk : zs.take (zs.length + 1) = zs := List.take_of_length_le (by omega)
        rw [htk] at HB ⊢
        have HEnd : Hid ((⟨patchNexts (altSt s zs y (zs.length + 1)).P (preJ zs s.P.length) (altSt s zs y (zs.length + 1)).P.length, (altSt s zs y (zs.length + 1)).L⟩ : St) = (altG zs y).step s) := altSt_end s zs y
        have hlen : (altSt s zs y (zs.length + 1)).P.length = s.P.length + (preLen zs + y.length) := by
          rw [altSt_last, PG.step_length (seqG_sized y), altSt_len _ _ _ _ (Nat.le_refl _), List.take_length]; omega
        have HSL : Hid (∀ x ∈ preJ zs s.P.length, x < (altSt s zs y (zs.length + 1)).P.length) := by
          intro x hx
          have := preJ_lt zs s.P.length x hx
          omega
        have hjl : (preJ zs s.P.length).length ≤ 4194304 := by rw [preJ_length]; omega
        have hjb : (altSt s zs y (zs.length + 1)).P.length ≤ 4194304 := by omega
        clear htk hlen hlt hke
        generalize altSt s zs y (zs.length + 1) = s2 at *
        generalize preJ zs s.P.length = sp at *
        by_cases hsp0 : sp.length = 0
        · have hspn : sp = [] := List.eq_nil_of_length_eq_zero hsp0
          have HF : Hid (EmSt p m w ai asx wr ((altG zs y).step s)) := by
            rw [Hid, ← HEnd.out, hspn]
            exact HB.out.st
          have hz : ((sp.length : Nat) : Int) = 0 := by omega
          clear HEnd HB HSL hspn hsp0
          go_wp2_with fail
          go_loop [161] (fun i => i = .int .i64 0) (fun _ => 0)
          case atStart => rfl
          case round =>
            obtain rfl := hrel
            go_wp2_with fail
            go_end0
            exact ⟨rfl, HF⟩
        · obtain ⟨gs, hgs⟩ : ∃ gs, ao = some ⟨gs, 0, none⟩ := by
            rcases HB.out.own.2 with ⟨_, h0⟩ | ⟨gs, cap, cur, hv, _⟩
            · exact (hsp0 h0).elim
            · simp at hv; exact ⟨gs, hv.1⟩
          subst hgs
          have B1 : Hid (Beside p m w ai asx wr ⟨patchNexts s2.P (sp.take 0) s2.P.length, s2.L⟩ (.slice (some ⟨gs, 0, none⟩) sp.length cp) sp) := by
            simpa [patchNexts] using HB
          clear HB hsp0
          go_wp2_with fail
          go_loopw [161] (fun i wq => ∃ q : Nat, q ≤ sp.length ∧ i = .int .i64 q ∧ Hid (Beside p m w ai asx wq ⟨patchNexts s2.P (sp.take q) s2.P.length, s2.L⟩ (.slice (some ⟨gs, 0, none⟩) sp.length cp) sp)) (fun i _ => sp.length - (intOf i).toNat)
          case atStart => exact ⟨0, Nat.zero_le _, rfl, B1⟩
          case round =>
            clear B1
            obtain ⟨q, hq, rfl, HB⟩ := hrel
            by_cases hqs : q < sp.length
            · have hxl := HSL.out _ (List.getElem_mem hqs)
              have hcx : wr.cell? ⟨gs, q, none⟩ = some (.int .i32 (sp[q]'hqs)) := by
                rw [HB.out.own.cellAt q (by omega)]
                simp [I32, hqs]
              have HX : Hid (sp.take (q + 1) = sp.take q ++ [sp[q]'hqs]) := List.take_succ_eq_append_getElem hqs
              have HPL : Hid ((patchNexts s2.P (sp.take q) s2.P.length).length = s2.P.length) := patchNexts_length _ _ _
              have HPS : Hid (patchNexts s2.P (sp.take (q + 1)) s2.P.length = setNext s2.P.length (patchNexts s2.P (sp.take q) s2.P.length) (sp[q]'hqs)) := by
                rw [Hid, HX.out, patchNexts_snoc]
              generalize sp[q]'hqs = x at *
              generalize patchNexts s2.P (sp.take q) s2.P.length = P2 at *
              obtain ⟨ai2, ci2, asx2, cs2, E2, T2, D2⟩ := HB.out.ex
              have E2' : EmAt wr p m ai2 ci2 asx2 cs2 P2 s2.L := E2
              obtain ⟨gi, hgi⟩ := E2'.form (by rw [HPL.out]; omega)
              subst hgi
              have c0 := E2'.cell0
              rw [HPL.out] at c0
              obtain ⟨i5, hi5⟩ : ∃ i, P2[x]? = some i := ⟨_, List.getElem?_eq_getElem (by rw [HPL.out]; exact hxl)⟩
              have c6 := (E2'.cellI hi5).2.2
              have f6 := E2'.freeI (x * 3 + 2)
              obtain ⟨E6, T6⟩ := E2'.patch (P' := setNext s2.P.length P2 x) (x * 3 + 2) (.int .i32 s2.P.length) (by rw [setNext_length]) (irow_setNext _ _ _)
              have HB6 : Hid (Beside p m w ai asx (wr.setCell ⟨gi, x * 3 + 2, none⟩ (.int .i32 s2.P.length)) ⟨patchNexts s2.P (sp.take (q + 1)) s2.P.length, s2.L⟩ (.slice (some ⟨gs, 0, none⟩) sp.length cp) sp) := by
                have E7 : EmAt (wr.setCell ⟨gi, x * 3 + 2, none⟩ (.int .i32 s2.P.length)) p m (some ⟨gi, 0, none⟩) ci2 asx2 cs2 (patchNexts s2.P (sp.take (q + 1)) s2.P.length) s2.L := by
                  rw [HPS.out]
                  exact E6
                exact HB.out.on (s' := ⟨patchNexts s2.P (sp.take (q + 1)) s2.P.length, s2.L⟩) E2 T2 D2 E7 T6
              have HC : Hid (wr.cell? ⟨p, 0, none⟩ = some (.slice (some ⟨gi, 0, none⟩) s2.P.length ci2)) := c0
              have hidx : (x : Int) < (s2.P.length : Int) := by omega
              clear E2 E2' T2 D2 E6 T6 hi5 HB HPL HPS HX
              go_wp2_with fail
              go_region_law (go_simp; go_at_call 38; refine (at_same p (some ⟨gi, 0, none⟩) s2.P.length ci2 _ (by omega) (by exact HC.out)).mono ?_; rintro e w' ⟨rfl, rfl⟩)
              all_goals
                go_wp2_with fail
                go_roundw
                case rel =>
                  refine ⟨_, _, _, _, _, _, _, _, _, _, _, _, _, _, _, ?_, rfl⟩
                  exact ⟨q + 1, by omega, by go_num, HB6.out.still (Kept.refl _ _).drew⟩
                case measure => simp [intOf]; omega
            · have hqe : q = sp.length := by omega
              subst hqe
              have HF : Hid (EmSt p m w ai asx wr ((altG zs y).step s)) := by
                rw [Hid, ← HEnd.out]
                have := HB.out.st
                rwa [List.take_length] at this
              clear HB
              go_wp2_with fail
              go_end0
              exact ⟨rfl, HF⟩

theorem altPart (n : Nat) (a : Option Addr) (cap : Nat) (bs : List Nat) (zs : List (List S4)) (y : List S4) (fp : Nat → Prop) (hx : ∀ z ∈ zs ++ [y], ∀ x ∈ z, x.Wf) (hzs : zs.length ≤ 4194304) :
    PartOK n (altG zs y) (preLen zs + y.length) fp (fun w => AltAt w n a cap bs (zs ++ [y]) fp) := by
  refine ⟨altG_sized zs y, fun hn hk hF => hn.kept hk hF, fun hn => hn.lt, ?_⟩
  intro p m ai ci asx cs s w hc hL h hn ha
  refine (emit_alt p m n a cap bs zs y fp hx ai ci asx cs s w hc hzs hL h hn ha).mono ?_
  rintro e w' ⟨rfl, ai', ci', asx', cs', E, T⟩
  exact ⟨rfl, ai', ci', asx', cs', E, T⟩
end Go.Proofs.Qxb6000456a
