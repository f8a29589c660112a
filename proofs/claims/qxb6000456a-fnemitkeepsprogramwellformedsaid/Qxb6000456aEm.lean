import Derived.Test.Qxb6000456aMap
import Derived.Deep.RegionLaw
namespace Go.Proofs.Qxb6000456a
open Go.RowKit
set_option linter.unusedVariables false
set_option linter.unusedSimpArgs false

theorem Try.info64 : (Try.prog.info? 64).map (fun i => (i.zero, i.size, i.bytes)) = some (some (.agg #[.int .u8 0, .int .i32 0, .int .i32 0]), 3, 12) := by kernel_rfl
theorem Try.info53 : (Try.prog.info? 53).map (fun i => (i.zero, i.size, i.bytes)) = some (some (.agg #[.int .u64 0, .int .u64 0, .int .u64 0, .int .u64 0]), 4, 32) := by kernel_rfl

set_option maxHeartbeats 400000 in
theorem at_any (p : Nat) (ao : Option Addr) (n cap : Nat) (w : World) (hn : n ≤ 2147483647)
    (h0 : w.cell? ⟨p, 0, none⟩ = some (.slice ao n cap)) :
    Calls Try.prog 38 #[.pointer (some ⟨p, 0, none⟩)] w fun e w' => e = .returned (.int .i32 n) ∧ w' = w := by
  go_enter Try.func38, Try.ntmps38
  go_wp2
  go_ret
  exact ⟨rfl, rfl⟩

def ownOf (a : Option Addr) : Option Nat := a.map (·.block)
theorem ownBlock_slice (a : Option Addr) (n c : Nat) : (Value.slice a n c).ownBlock = ownOf a := by cases a <;> rfl

/-- The program under the emitter's hand: its instructions P, its classes L, the map of classes at m. -/
structure EmAt (w : World) (p m : Nat) (ai : Option Addr) (ci : Nat) (asx : Option Addr) (cs : Nat) (P : List I) (L : List S4) : Prop where
  head : w.heap[p]? = some (.cells #[.slice ai P.length ci, .slice asx L.length cs] 60 (0, 0))
  rowI : w.ownsRow 0 64 3 (.slice ai P.length ci) P.length (irow P)
  rowS : w.ownsRow 0 53 4 (.slice asx L.length cs) L.length (srow L)
  map : MpAt w m L
  pm : p ≠ m
  pi : ownOf ai ≠ some p
  ps : ownOf asx ≠ some p
  mi : ownOf ai ≠ some m
  ms : ownOf asx ≠ some m
  is : ∀ g, ownOf ai = some g → ownOf asx ≠ some g
  nd : L.Nodup
  wf : ∀ x ∈ L, x.Wf

def emF (p m : Nat) (ai asx : Option Addr) (k : Nat) : Prop := k = p ∨ k = m ∨ ownOf ai = some k ∨ ownOf asx = some k

structure EmTo (p m : Nat) (w w' : World) (ai asx ai' asx' : Option Addr) : Prop where
  kept : Kept (emF p m ai asx) w w'
  foot : ∀ k, emF p m ai' asx' k → emF p m ai asx k ∨ w.heap.size ≤ k

theorem EmTo.refl (p m : Nat) (w : World) (ai asx : Option Addr) : EmTo p m w w ai asx ai asx := ⟨Kept.refl _ _, fun k h => .inl h⟩
theorem EmTo.trans {p m : Nat} {w w1 w2 : World} {ai asx ai1 asx1 ai2 asx2 : Option Addr} (h : EmTo p m w w1 ai asx ai1 asx1) (k : EmTo p m w1 w2 ai1 asx1 ai2 asx2) : EmTo p m w w2 ai asx ai2 asx2 :=
  ⟨h.kept.trans k.kept (fun i hi hf => (h.foot i hf).elim id (fun hle => by omega)), fun i hi => (k.foot i hi).elim (fun h1 => h.foot i h1) (fun h1 => .inr (Nat.le_trans h.kept.size h1))⟩

theorem EmAt.lt {w : World} {p m : Nat} {ai : Option Addr} {ci : Nat} {asx : Option Addr} {cs : Nat} {P : List I} {L : List S4} (h : EmAt w p m ai ci asx cs P L) : ∀ k, emF p m ai asx k → k < w.heap.size := by
  intro k hk
  rcases hk with rfl | rfl | hk | hk
  · exact lt_of_block h.head
  · exact h.map.lt
  · exact (h.rowI.lt k (by rw [ownBlock_slice]; exact hk)).2
  · exact (h.rowS.lt k (by rw [ownBlock_slice]; exact hk)).2

theorem EmAt.kept {F : Nat → Prop} {w w' : World} {p m : Nat} {ai : Option Addr} {ci : Nat} {asx : Option Addr} {cs : Nat} {P : List I} {L : List S4} (h : EmAt w p m ai ci asx cs P L) (hk : Kept F w w') (hF : ∀ k, emF p m ai asx k → ¬ F k) : EmAt w' p m ai ci asx cs P L :=
  ⟨hk.heap h.head (hF p (.inl rfl)), hk.owns h.rowI (fun g e => hF g (.inr (.inr (.inl (by rw [← ownBlock_slice]; exact e))))), hk.owns h.rowS (fun g e => hF g (.inr (.inr (.inr (by rw [← ownBlock_slice]; exact e))))),
    h.map.kept hk (hF m (.inr (.inl rfl))), h.pm, h.pi, h.ps, h.mi, h.ms, h.is, h.nd, h.wf⟩

theorem EmAt.cell0 {w : World} {p m : Nat} {ai : Option Addr} {ci : Nat} {asx : Option Addr} {cs : Nat} {P : List I} {L : List S4} (h : EmAt w p m ai ci asx cs P L) : w.cell? ⟨p, 0, none⟩ = some (.slice ai P.length ci) := by rw [cell_of_heap h.head]; rfl
theorem EmAt.cell1 {w : World} {p m : Nat} {ai : Option Addr} {ci : Nat} {asx : Option Addr} {cs : Nat} {P : List I} {L : List S4} (h : EmAt w p m ai ci asx cs P L) : w.cell? ⟨p, 1, none⟩ = some (.slice asx L.length cs) := by rw [cell_of_heap h.head]; rfl
theorem EmAt.free {w : World} {p m : Nat} {ai : Option Addr} {ci : Nat} {asx : Option Addr} {cs : Nat} {P : List I} {L : List S4} (h : EmAt w p m ai ci asx cs P L) (i : Nat) : w.frozen? ⟨p, i, none⟩ = false := free_of_heap h.head

/-- An instruction is appended: w1 behind the append, then the field is stored. -/
theorem EmAt.pushI {w w1 : World} {p m : Nat} {ai : Option Addr} {ci : Nat} {asx : Option Addr} {cs : Nat} {P : List I} {L : List S4} {g cap : Nat} {i : I} (h : EmAt w p m ai ci asx cs P L)
    (hk : Kept (fun k => ownOf ai = some k) w w1) (hown : w1.ownsRow 0 64 3 (.slice (some ⟨g, 0, none⟩) (P.length + 1) cap) (P.length + 1) (irow P ++ icells i)) (hg : ownOf ai = some g ∨ w.heap.size ≤ g) :
    EmAt (w1.setCell ⟨p, 0, none⟩ (.slice (some ⟨g, 0, none⟩) (P.length + 1) cap)) p m (some ⟨g, 0, none⟩) cap asx cs (P ++ [i]) L ∧
    EmTo p m w (w1.setCell ⟨p, 0, none⟩ (.slice (some ⟨g, 0, none⟩) (P.length + 1) cap)) ai asx (some ⟨g, 0, none⟩) asx ∧
    w1.heap[p]? = some (.cells #[.slice ai P.length ci, .slice asx L.length cs] 60 (0, 0)) := by
  have hh := hk.heap h.head h.pi
  have hgp : g ≠ p := by
    rcases hg with hg | hg
    · intro e; exact h.pi (e ▸ hg)
    · have := lt_of_block h.head; omega
  have hgm : g ≠ m := by
    rcases hg with hg | hg
    · intro e; exact h.mi (e ▸ hg)
    · have := h.map.lt; omega
  have hgs : ownOf asx ≠ some g := by
    rcases hg with hg | hg
    · exact h.is g hg
    · intro e
      have := h.lt g (.inr (.inr (.inr e)))
      omega
  have hk2 : Kept (fun k => k = p) w1 (w1.setCell ⟨p, 0, none⟩ (.slice (some ⟨g, 0, none⟩) (P.length + 1) cap)) := (Kept.refl (fun k => k = p) w1).setCell (p := ⟨p, 0, none⟩) (fun _ => rfl) _
  refine ⟨⟨?_, ?_, ?_, ?_, h.pm, ?_, h.ps, ?_, h.ms, ?_, h.nd, h.wf⟩, ⟨?_, ?_⟩, hh⟩
  · rw [heap_setCell hh]; simp
  · have := hk2.owns hown (fun k e => by simp [Value.ownBlock] at e; subst e; exact hgp)
    rw [irow_append]
    simpa [irow] using this
  · exact hk2.owns (hk.owns h.rowS (fun k e => by rw [ownBlock_slice] at e; intro e2; exact h.is k e2 e)) (fun k e => by rw [ownBlock_slice] at e; rintro rfl; exact h.ps e)
  · exact (h.map.kept hk (fun e => h.mi e)).kept hk2 (fun e => h.pm e.symm)
  · simpa [ownOf] using hgp
  · simpa [ownOf] using hgm
  · intro k e; simp [ownOf] at e; subst e; exact hgs
  · exact (hk.mono (fun i _ e => .inr (.inr (.inl e)))).trans hk2 (fun i _ e => .inl e)
  · rintro k (rfl | rfl | e | e)
    · exact .inl (.inl rfl)
    · exact .inl (.inr (.inl rfl))
    · simp [ownOf] at e
      subst e
      rcases hg with hg | hg
      · exact .inl (.inr (.inr (.inl hg)))
      · exact .inr hg
    · exact .inl (.inr (.inr (.inr e)))

/-- .. as the walk has it: behind the new element's own block (wa) and the append (w1). -/
theorem EmAt.pushed {w wa w1 : World} {p m : Nat} {ai : Option Addr} {ci : Nat} {asx : Option Addr} {cs : Nat} {P : List I} {L : List S4} {g cap H : Nat} {news : List Value} (i : I) (h : EmAt w p m ai ci asx cs P L) (hnews : news = icells i)
    (hka : Kept (fun _ => False) w wa) (hgr : wa.grownBy w1 (Value.slice ai P.length ci).ownBlock) (hown : w1.ownsRow 0 64 3 (.slice (some ⟨g, 0, none⟩) (P.length + 1) cap) (P.length + 1) (irow P ++ news))
    (hg : (Value.slice ai P.length ci).ownBlock = some g ∨ g = H) (hH : w.heap.size ≤ H) :
    (EmAt (w1.setCell ⟨p, 0, none⟩ (.slice (some ⟨g, 0, none⟩) (P.length + 1) cap)) p m (some ⟨g, 0, none⟩) cap asx cs (P ++ [i]) L ∧
    EmTo p m w (w1.setCell ⟨p, 0, none⟩ (.slice (some ⟨g, 0, none⟩) (P.length + 1) cap)) ai asx (some ⟨g, 0, none⟩) asx) ∧
    w1.cell? ⟨p, 0, none⟩ = some (.slice ai P.length ci) ∧ w1.frozen? ⟨p, 0, none⟩ = false := by
  subst hnews
  rw [ownBlock_slice] at hgr hg
  have hk : Kept (fun k => ownOf ai = some k) w w1 := (hka.mono (fun _ _ h => h.elim)).grown hgr (fun k e _ => e)
  obtain ⟨r1, r2, r3⟩ := h.pushI hk hown (hg.elim (fun h => .inl h) (fun e => .inr (by omega)))
  refine ⟨⟨r1, r2⟩, ?_, free_of_heap r3⟩
  rw [cell_of_heap r3]; rfl

/-- A byte set is appended to the row of byte sets and the map (w0: behind the map's store; w1 behind the append). -/
theorem EmAt.pushS {w w0 w1 : World} {p m : Nat} {ai : Option Addr} {ci : Nat} {asx : Option Addr} {cs : Nat} {P : List I} {L : List S4} {g cap : Nat} {x : S4} (h : EmAt w p m ai ci asx cs P L) (hx : x.Wf) (hn : ¬ setIdx L x < L.length)
    (hk0 : Kept (fun k => k = m) w w0) (hm : MpAt w0 m (L ++ [x]))
    (hk : Kept (fun k => ownOf asx = some k) w0 w1) (hown : w1.ownsRow 0 53 4 (.slice (some ⟨g, 0, none⟩) (L.length + 1) cap) (L.length + 1) (srow L ++ scells x)) (hg : ownOf asx = some g ∨ w.heap.size ≤ g) :
    EmAt (w1.setCell ⟨p, 1, none⟩ (.slice (some ⟨g, 0, none⟩) (L.length + 1) cap)) p m ai ci (some ⟨g, 0, none⟩) cap P (addSet L x) ∧
    EmTo p m w (w1.setCell ⟨p, 1, none⟩ (.slice (some ⟨g, 0, none⟩) (L.length + 1) cap)) ai asx ai (some ⟨g, 0, none⟩) ∧
    w1.heap[p]? = some (.cells #[.slice ai P.length ci, .slice asx L.length cs] 60 (0, 0)) := by
  have hadd : addSet L x = L ++ [x] := by unfold addSet; rw [if_neg hn]
  have hh := hk.heap (hk0.heap h.head h.pm) h.ps
  have hgp : g ≠ p := by
    rcases hg with hg | hg
    · intro e; exact h.ps (e ▸ hg)
    · have := lt_of_block h.head; omega
  have hgm : g ≠ m := by
    rcases hg with hg | hg
    · intro e; exact h.ms (e ▸ hg)
    · have := h.map.lt; omega
  have hgi : ownOf ai ≠ some g := by
    rcases hg with hg | hg
    · intro e; exact h.is g e hg
    · intro e
      have := h.lt g (.inr (.inr (.inl e)))
      omega
  have hk2 : Kept (fun k => k = p) w1 (w1.setCell ⟨p, 1, none⟩ (.slice (some ⟨g, 0, none⟩) (L.length + 1) cap)) := (Kept.refl (fun k => k = p) w1).setCell (p := ⟨p, 1, none⟩) (fun _ => rfl) _
  refine ⟨⟨?_, ?_, ?_, ?_, h.pm, h.pi, ?_, h.mi, ?_, ?_, addSet_nodup x h.nd, ?_⟩, ⟨?_, ?_⟩, hh⟩
  · rw [heap_setCell hh, hadd]; simp
  · exact hk2.owns (hk.owns (hk0.owns h.rowI (fun k e => by rw [ownBlock_slice] at e; rintro rfl; exact h.mi e)) (fun k e => by rw [ownBlock_slice] at e; exact h.is k e)) (fun k e => by rw [ownBlock_slice] at e; rintro rfl; exact h.pi e)
  · have := hk2.owns hown (fun k e => by simp [Value.ownBlock] at e; subst e; exact hgp)
    rw [hadd, srow_append]
    simpa [srow] using this
  · rw [hadd]
    exact (hm.kept hk (fun e => h.ms e)).kept hk2 (fun e => h.pm e.symm)
  · simpa [ownOf] using hgp
  · simpa [ownOf] using hgm
  · intro k e e2; simp [ownOf] at e2; subst e2; exact hgi e
  · intro y hy
    rw [hadd] at hy
    rcases List.mem_append.1 hy with hy | hy
    · exact h.wf y hy
    · simp at hy; subst hy; exact hx
  · exact ((hk0.mono (fun i _ e => .inr (.inl e))).trans hk (fun i _ e => .inr (.inr (.inr e)))).trans hk2 (fun i _ e => .inl e)
  · rintro k (rfl | rfl | e | e)
    · exact .inl (.inl rfl)
    · exact .inl (.inr (.inl rfl))
    · exact .inl (.inr (.inr (.inl e)))
    · simp [ownOf] at e
      subst e
      rcases hg with hg | hg
      · exact .inl (.inr (.inr (.inr hg)))
      · exact .inr hg

theorem addSet_known {L : List S4} {x : S4} (h : setIdx L x < L.length) : addSet L x = L := by unfold addSet; rw [if_pos h]

theorem wrap_succ {n : Nat} (h : n ≤ 4194304) : IntKind.i32.wrap ((n : Int) + 1) = (n : Int) + 1 := by
  rw [IntKind.wrap_i32]; omega

/-- A node of one byte set. -/
def ByteNode (w : World) (b : Nat) (x : S4) : Prop :=
  w.heap[b]? = some (.cells #[.int .u8 0, .int .u64 x.a, .int .u64 x.b, .int .u64 x.c, .int .u64 x.d, .slice none 0 0, .int .i64 0, .int .i64 0] 56 (0, 0))

end Go.Proofs.Qxb6000456a
