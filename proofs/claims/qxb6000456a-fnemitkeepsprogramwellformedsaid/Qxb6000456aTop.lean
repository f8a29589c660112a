import Derived.Test.Qxb6000456aOk
namespace Go.Proofs.Qxb6000456a
open Go.RowKit
set_option linter.unusedVariables false
set_option linter.unusedSimpArgs false

set_option maxHeartbeats 400000 in
theorem newProgram_any (w : World) : Calls Try.prog 16 #[] w fun e w' => e = .returned (.pointer (some ⟨w.heap.size, 0, none⟩)) ∧ w' = w.alloc (.cells #[.slice none 0 0, .slice none 0 0] 60) := by
  go_enter Try.func16, Try.ntmps16
  go_wp2
  go_ret
  exact ⟨rfl, rfl⟩

set_option maxHeartbeats 400000 in
theorem newSets_any (w : World) : Calls Try.prog 17 #[] w fun e w' => e = .returned (.map (some w.heap.size)) ∧ w' = w.alloc (.map #[] 0) := by
  have hmm := @run_makeMap Try.prog
  go_enter Try.func17, Try.ntmps17
  go_wp2
  go_ret
  exact ⟨rfl, rfl⟩

def byteCells (x : S4) : Array Value := #[.int .u8 0, .int .u64 x.a, .int .u64 x.b, .int .u64 x.c, .int .u64 x.d, .slice none 0 0, .int .i64 0, .int .i64 0]

set_option maxHeartbeats 400000 in
theorem zzByte_any (x : S4) (w : World) : Calls Try.prog 19 #[.agg #[.int .u64 x.a, .int .u64 x.b, .int .u64 x.c, .int .u64 x.d]] w fun e w' => e = .returned (.pointer (some ⟨w.heap.size + 1, 0, none⟩)) ∧
    w' = (w.alloc (.cells #[.int .u64 x.a, .int .u64 x.b, .int .u64 x.c, .int .u64 x.d] 32)).alloc (.cells (byteCells x) 56) := by
  go_enter Try.func19, Try.ntmps19
  go_wp2
  go_ret
  exact ⟨rfl, rfl⟩

set_option maxHeartbeats 400000 in
theorem inSet_any (x : S4) (c : Nat) (hc : c < 256) (w : World) :
    Calls Try.prog 21 #[.agg #[.int .u64 x.a, .int .u64 x.b, .int .u64 x.c, .int .u64 x.d], .int .u8 c] w fun e w' => e = .returned (.bool (inB (x.word (c / 64)) c)) ∧ w' = w.alloc (.cells #[.int .u64 x.a, .int .u64 x.b, .int .u64 x.c, .int .u64 x.d] 32) := by
  have h0 : (w.alloc (.cells #[.int .u64 x.a, .int .u64 x.b, .int .u64 x.c, .int .u64 x.d] 32)).cell? ⟨w.heap.size, c / 64, none⟩ = some (.int .u64 (x.word (c / 64))) := by
    rw [World.cell?_alloc_at _ _ _ _ rfl]
    have e : (#[.int .u64 x.a, .int .u64 x.b, .int .u64 x.c, .int .u64 x.d] : Array Value) = (scells x).toArray := rfl
    rw [e, List.getElem?_toArray]
    exact scells_word x (c / 64) (by omega)
  go_enter Try.func21, Try.ntmps21
  go_wp2
  go_ret
  exact ⟨rfl, rfl⟩

set_option maxHeartbeats 400000 in
theorem zzMatches_any (p : Nat) (s : ByteArray) (w : World) (R : Ending → World → Prop) (hR : ∀ e w', R e w' → ∃ b, e = .returned (.bool b)) (h : Calls Try.prog 31 #[.pointer (some ⟨p, 0, none⟩), .string s] w R) :
    Calls Try.prog 11 #[.pointer (some ⟨p, 0, none⟩), .string s] w R := by
  have H : Hid (Calls Try.prog 31 #[.pointer (some ⟨p, 0, none⟩), .string s] w R) := h
  clear h
  go_enter Try.func11, Try.ntmps11
  go_wp2_with fail
  refine (Calls.mono H.out ?_)
  rintro e w' hr
  obtain ⟨b, rfl⟩ := hR e w' hr
  go_wp2_with fail
  exact hr

set_option maxHeartbeats 400000 in
theorem zzEmitRepeat_any (p n m : Nat) (least most : Int) (w : World) (R : World → Prop) (h : Calls Try.prog 32 #[.pointer (some ⟨p, 0, none⟩), .pointer (some ⟨n, 0, none⟩), .int .i64 least, .int .i64 most, .map (some m)] w fun e w' => e = .returned (.tuple #[]) ∧ R w') :
    Calls Try.prog 18 #[.pointer (some ⟨p, 0, none⟩), .pointer (some ⟨n, 0, none⟩), .int .i64 least, .int .i64 most, .map (some m)] w fun e w' => e = .returned (.tuple #[]) ∧ R w' := by
  have H : Hid (Calls Try.prog 32 #[.pointer (some ⟨p, 0, none⟩), .pointer (some ⟨n, 0, none⟩), .int .i64 least, .int .i64 most, .map (some m)] w fun e w' => e = .returned (.tuple #[]) ∧ R w') := h
  clear h
  go_enter Try.func18, Try.ntmps18
  go_wp2_with fail
  refine (Calls.mono H.out ?_)
  rintro e w' ⟨rfl, hr⟩
  go_wp2_with fail
  go_end0
  exact ⟨rfl, hr⟩

set_option maxHeartbeats 400000 in
theorem endMatch_any (p m : Nat) (w0 : World) (ai0 as0 : Option Addr) (s : St) (hb : s.P.length ≤ 4194304) (w : World) (h : EmSt p m w0 ai0 as0 w s) :
    Calls Try.prog 20 #[.pointer (some ⟨p, 0, none⟩)] w fun e w' => e = .returned (.tuple #[]) ∧ EmSt p m w0 ai0 as0 w' (s.push ⟨3, 0, 0⟩) := by
  obtain ⟨i0, hi0, hz0, hz1, hz2⟩ := info_parts Try.info64
  obtain ⟨ai, ci, asx, cs, E, T⟩ := h
  have c0 := E.cell0
  have HE : Hid (EmAt w p m ai ci asx cs s.P s.L) := E
  have HT : Hid (EmTo p m w0 w ai0 as0 ai asx) := T
  clear E T
  go_enter Try.func20, Try.ntmps20
  go_wp2_with (at_builtin; refine wpList_append_lies _ rfl _ _ 57 rfl 0 64 i0 (.agg #[.int .u8 0, .int .i32 0, .int .i32 0]) 3 12 Try.underlying57 hi0 hz0 hz1 hz2 rfl (by decide) (.slice ai s.P.length ci) s.P.length (irow s.P) rfl (HE.out.rowI.alloc _) ⟨w.heap.size, 0, none⟩ 1 1 [.int .u8 3, .int .i32 0, .int .i32 0] rfl rfl (World.news_of_block (heap_alloc_new w _)) (by intro u hu; simp at hu; rcases hu with rfl | rfl <;> rfl) (by decide) (by unfold maxLen; omega) (by omega) (Nat.zero_le _) (w.heap.size + 1) (by simp) ?_)
  intro g4 cap4 w4 hown4 hgr4 hg4 hlt4
  obtain ⟨⟨E4, T4⟩, r4, r5⟩ := HE.out.pushed ⟨3, 0, 0⟩ rfl ((Kept.refl _ w).alloc _) hgr4 hown4 hg4 (by omega)
  clear hown4 hgr4 hg4 hlt4
  have HF : Hid (EmSt p m w0 ai0 as0 (w4.setCell ⟨p, 0, none⟩ (.slice (some ⟨g4, 0, none⟩) (s.P.length + 1) cap4)) (s.push ⟨3, 0, 0⟩)) := ⟨_, _, _, _, E4, HT.out.trans T4⟩
  clear E4 T4
  go_wp2_with fail
  go_end0
  exact ⟨rfl, HF⟩

/-- From the emitter's state to the matcher's. -/
theorem EmSt.matches {p m : Nat} {w0 : World} {ai0 as0 : Option Addr} {s : St} {w : World} (h : EmSt p m w0 ai0 as0 w (s.push ⟨3, 0, 0⟩)) (hok : s.Ok) (hb : s.P.length + 1 ≤ 4194304) (hL : s.L.length ≤ 4194304) (t : ByteArray) (ht : t.size ≤ maxLen) :
    Calls Try.prog 31 #[.pointer (some ⟨p, 0, none⟩), .string t] w fun e w' => AccPost (s.P ++ [⟨3, 0, 0⟩]) s.L t w e w' := by
  obtain ⟨ai, ci, asx, cs, E, T⟩ := h
  have E' : EmAt w p m ai ci asx cs (s.P ++ [⟨3, 0, 0⟩]) s.L := E
  obtain ⟨gi, rfl⟩ := E'.form (by simp)
  exact matches_any p gi ci (.slice asx s.L.length cs) (s.P ++ [⟨3, 0, 0⟩]) s.L (wf_close hok hb hL) (by simp) t ht w ⟨E'.head, E'.rowI⟩ E'.rowS
end Go.Proofs.Qxb6000456a
