import Derived.Test.Qxb6000456aSeq
import Derived.Test.Qxb6000456aTop
namespace Go.Proofs.Qxb6000456a
open Go.RowKit
set_option linter.unusedVariables false
set_option linter.unusedSimpArgs false

theorem Try.info25 : (Try.prog.info? 25).map (fun i => (i.zero, i.size, i.bytes)) = some (some (.pointer none), 1, 8) := by kernel_rfl

def ptrV (b : Nat) : Value := .pointer (some ⟨b, 0, none⟩)
def nodeCells (kind : Nat) (v : Value) : Array Value := #[.int .u8 kind, .int .u64 0, .int .u64 0, .int .u64 0, .int .u64 0, v, .int .i64 0, .int .i64 0]

/-- A node with parts: at block n, of this kind, its parts at the blocks bs. -/
structure NodeAt (w : World) (n kind : Nat) (a : Option Addr) (cap : Nat) (bs : List Nat) : Prop where
  head : w.heap[n]? = some (.cells (nodeCells kind (.slice a bs.length cap)) 56 (0, 0))
  row : w.ownsRow 0 25 1 (.slice a bs.length cap) bs.length (bs.map ptrV)
  na : ownOf a ≠ some n

theorem NodeAt.kept {F : Nat → Prop} {w w' : World} {n kind : Nat} {a : Option Addr} {cap : Nat} {bs : List Nat} (h : NodeAt w n kind a cap bs) (hk : Kept F w w') (h1 : ¬ F n) (h2 : ∀ k, ownOf a = some k → ¬ F k) : NodeAt w' n kind a cap bs :=
  ⟨hk.heap h.head h1, hk.owns h.row (fun g e => h2 g (by rw [← ownBlock_slice]; exact e)), h.na⟩
theorem NodeAt.kindC {w : World} {n kind : Nat} {a : Option Addr} {cap : Nat} {bs : List Nat} (h : NodeAt w n kind a cap bs) : w.cell? ⟨n, 0, none⟩ = some (.int .u8 kind) := by rw [cell_of_heap h.head]; rfl
theorem NodeAt.subsC {w : World} {n kind : Nat} {a : Option Addr} {cap : Nat} {bs : List Nat} (h : NodeAt w n kind a cap bs) : w.cell? ⟨n, 5, none⟩ = some (.slice a bs.length cap) := by rw [cell_of_heap h.head]; rfl
theorem NodeAt.free {w : World} {n kind : Nat} {a : Option Addr} {cap : Nat} {bs : List Nat} (h : NodeAt w n kind a cap bs) (i : Nat) : w.frozen? ⟨n, i, none⟩ = false := free_of_heap h.head
theorem NodeAt.form {w : World} {n kind : Nat} {a : Option Addr} {cap : Nat} {bs : List Nat} (h : NodeAt w n kind a cap bs) (hb : 0 < bs.length) : ∃ g, a = some ⟨g, 0, none⟩ := by
  rcases h.row.2 with ⟨_, h0⟩ | ⟨g, c, cur, hv, _⟩
  · omega
  · simp at hv; exact ⟨g, hv.1⟩

set_option maxHeartbeats 400000 in
theorem zzSeq_any (w : World) : Calls Try.prog 29 #[] w fun e w' => e = .returned (ptrV w.heap.size) ∧ w' = w.alloc (.cells (nodeCells 1 (.slice none 0 0)) 56) := by
  go_enter Try.func29, Try.ntmps29
  go_wp2
  go_ret
  exact ⟨rfl, rfl⟩
set_option maxHeartbeats 400000 in
theorem zzAlt_any (w : World) : Calls Try.prog 13 #[] w fun e w' => e = .returned (ptrV w.heap.size) ∧ w' = w.alloc (.cells (nodeCells 2 (.slice none 0 0)) 56) := by
  go_enter Try.func13, Try.ntmps13
  go_wp2
  go_ret
  exact ⟨rfl, rfl⟩

set_option maxHeartbeats 400000 in
theorem addSub_any (n kind b : Nat) (a : Option Addr) (cap : Nat) (bs : List Nat) (hb : bs.length ≤ 4194304) (w : World) (h : NodeAt w n kind a cap bs) :
    Calls Try.prog 14 #[.pointer (some ⟨n, 0, none⟩), .pointer (some ⟨b, 0, none⟩)] w fun e w' => e = .returned (.tuple #[]) ∧
      ∃ a' cap', NodeAt w' n kind a' cap' (bs ++ [b]) ∧ Kept (fun k => k = n ∨ ownOf a = some k) w w' ∧ (∀ k, ownOf a' = some k → ownOf a = some k ∨ w.heap.size ≤ k) := by
  obtain ⟨i0, hi0, hz0, hz1, hz2⟩ := info_parts Try.info25
  have c5 := h.subsC
  have hnw : n < w.heap.size := lt_of_block h.head
  have HN : Hid (NodeAt w n kind a cap bs) := h
  clear h
  go_enter Try.func14, Try.ntmps14
  go_wp2_with (at_builtin; refine wpList_append_lies _ rfl _ _ 54 rfl 0 25 i0 (.pointer none) 1 8 Try.underlying54 hi0 hz0 hz1 hz2 rfl (by decide) (.slice a bs.length cap) bs.length (bs.map ptrV) rfl (HN.out.row.alloc _) ⟨w.heap.size, 0, none⟩ 1 1 [.pointer (some ⟨b, 0, none⟩)] rfl rfl (cell_one_new _ _ _) (by intro u hu; simp at hu; subst hu; rfl) (by decide) (by unfold maxLen; omega) (by omega) (Nat.zero_le _) (w.heap.size + 1) (by simp) ?_)
  intro g1 cap1 w1 hown hgr hg hlt
  rw [ownBlock_slice] at hgr hg
  have hk : Kept (fun k => ownOf a = some k) w w1 := ((Kept.refl _ w).alloc _).grown hgr (fun k e _ => e)
  have hh := hk.heap HN.out.head HN.out.na
  have hgn : g1 ≠ n := by
    rcases hg with hg | hg
    · intro e; exact HN.out.na (e ▸ hg)
    · omega
  have c5' : w1.cell? ⟨n, 5, none⟩ = some (.slice a bs.length cap) := by rw [cell_of_heap hh]; rfl
  have f5' : w1.frozen? ⟨n, 5, none⟩ = false := free_of_heap hh
  have HF : Hid (NodeAt (w1.setCell ⟨n, 5, none⟩ (.slice (some ⟨g1, 0, none⟩) (bs.length + 1) cap1)) n kind (some ⟨g1, 0, none⟩) cap1 (bs ++ [b]) ∧ Kept (fun k => k = n ∨ ownOf a = some k) w (w1.setCell ⟨n, 5, none⟩ (.slice (some ⟨g1, 0, none⟩) (bs.length + 1) cap1)) ∧
      (∀ k, ownOf (some ⟨g1, 0, none⟩) = some k → ownOf a = some k ∨ w.heap.size ≤ k)) := by
    refine ⟨⟨?_, ?_, ?_⟩, ?_, ?_⟩
    · rw [heap_setCell hh]; simp [nodeCells]
    · have := ownsRow_setCell_other hown (a := ⟨n, 5, none⟩) (by simpa [Value.ownBlock] using hgn) (.slice (some ⟨g1, 0, none⟩) (bs.length + 1) cap1)
      simpa [ptrV] using this
    · simpa [ownOf] using hgn
    · exact (hk.mono (fun i _ e => .inr e)).setCell (fun _ => .inl rfl) _
    · intro k e
      simp [ownOf] at e
      subst e
      rcases hg with hg | hg
      · exact .inl hg
      · exact .inr (by omega)
  clear hown hgr hg hlt hk hh
  go_wp2_with fail
  go_end0
  exact ⟨rfl, _, _, HF⟩

/-- A sequence of byte sets in memory. -/
structure SeqAt (w : World) (n : Nat) (a : Option Addr) (cap : Nat) (bs : List Nat) (xs : List S4) : Prop where
  node : NodeAt w n 1 a cap bs
  len : bs.length = xs.length
  parts : ∀ (i b : Nat) (x : S4), bs[i]? = some b → xs[i]? = some x → ByteNode w b x

def seqF (n : Nat) (a : Option Addr) (bs : List Nat) (k : Nat) : Prop := k = n ∨ ownOf a = some k ∨ k ∈ bs

theorem SeqAt.kept {F : Nat → Prop} {w w' : World} {n : Nat} {a : Option Addr} {cap : Nat} {bs : List Nat} {xs : List S4} (h : SeqAt w n a cap bs xs) (hk : Kept F w w') (hF : ∀ k, seqF n a bs k → ¬ F k) : SeqAt w' n a cap bs xs :=
  ⟨h.node.kept hk (hF n (.inl rfl)) (fun k e => hF k (.inr (.inl e))), h.len, fun i b x hb hx => hk.heap (h.parts i b x hb hx) (hF b (.inr (.inr (List.mem_of_getElem? hb))))⟩
theorem SeqAt.lt {w : World} {n : Nat} {a : Option Addr} {cap : Nat} {bs : List Nat} {xs : List S4} (h : SeqAt w n a cap bs xs) : ∀ k, seqF n a bs k → k < w.heap.size := by
  rintro k (rfl | e | hm)
  · exact lt_of_block h.node.head
  · exact (h.node.row.lt k (by rw [ownBlock_slice]; exact e)).2
  · obtain ⟨i, hi⟩ := List.getElem?_of_mem hm
    have hl := (List.getElem?_eq_some_iff.1 hi).1
    exact lt_of_block (h.parts i k _ hi (List.getElem?_eq_getElem (by rw [← h.len]; exact hl)))
end Go.Proofs.Qxb6000456a
