import Derived.WalkKit
import Derived.WalkSpells
import Derived.Deep.AppendLies
import Derived.Maps.AppendAt
import Derived.Deep.Draws
namespace Go.Proofs.Qxb6000456a
open Go.RowKit
set_option linter.unusedVariables false

/-- Every block that stood and is outside F is as it was; streams alike. -/
structure Kept (F : Nat → Prop) (w w' : World) : Prop where
  os : w'.os = w.os
  tape : w'.tape = w.tape
  output : w'.output = w.output
  size : w.heap.size ≤ w'.heap.size
  block : ∀ k, k < w.heap.size → ¬ F k → w'.heap[k]? = w.heap[k]?

theorem Kept.refl (F : Nat → Prop) (w : World) : Kept F w w := ⟨rfl, rfl, rfl, Nat.le_refl _, fun _ _ _ => rfl⟩

theorem Kept.trans {F G : Nat → Prop} {a b c : World} (h : Kept F a b) (k : Kept G b c) (hG : ∀ i, i < a.heap.size → G i → F i) : Kept F a c :=
  ⟨k.os.trans h.os, k.tape.trans h.tape, k.output.trans h.output, Nat.le_trans h.size k.size, fun i hi hF =>
    (k.block i (Nat.lt_of_lt_of_le hi h.size) (fun g => hF (hG i hi g))).trans (h.block i hi hF)⟩

theorem Kept.mono {F G : Nat → Prop} {w w' : World} (h : Kept F w w') (hG : ∀ i, i < w.heap.size → F i → G i) : Kept G w w' :=
  ⟨h.os, h.tape, h.output, h.size, fun i hi hg => h.block i hi (fun f => hg (hG i hi f))⟩

theorem Kept.drew {F : Nat → Prop} {a w : World} (h : Kept F a w) : Kept F a w.drew := ⟨h.os, h.tape, h.output, h.size, h.block⟩
theorem Kept.drewN {F : Nat → Prop} {a w : World} (h : Kept F a w) (n : Nat) : Kept F a (w.drewN n) := h.trans ⟨rfl, rfl, rfl, Nat.le_refl _, fun _ _ _ => rfl⟩ (fun _ _ h => h)

theorem Kept.alloc {F : Nat → Prop} {a w : World} (h : Kept F a w) (o : Obj) : Kept F a (w.alloc o) :=
  h.trans (G := fun _ => False) ⟨rfl, rfl, rfl, by simp, fun k hk _ => Below.heap_alloc _ _ _ hk⟩ (fun _ _ h => h.elim)

theorem Kept.setCell {F : Nat → Prop} {a w : World} (h : Kept F a w) {p : Addr} (hp : p.block < a.heap.size → F p.block) (u : Value) : Kept F a (w.setCell p u) :=
  h.trans (G := fun k => k = p.block) ⟨rfl, rfl, rfl, by simp [World.setCell], fun k hk hn => Below.heap_setCell _ _ _ _ hn⟩ (fun i hi e => by subst e; exact hp hi)

theorem Kept.grown {F : Nat → Prop} {a w w' : World} {row : Option Nat} (h : Kept F a w) (hg : w.grownBy w' row) (hr : ∀ k, row = some k → k < a.heap.size → F k) : Kept F a w' :=
  h.trans (G := fun k => row = some k) ⟨hg.os, hg.tape, hg.output, hg.size, fun k hk hn => hg.block k hk (fun e => hn e.symm)⟩ (fun i hi e => hr i e hi)

theorem Kept.below {F : Nat → Prop} {w w' : World} {B : Nat} (h : Kept F w w') (hB : B ≤ w.heap.size) (hF : ∀ k, k < B → ¬ F k) : Below B w w' :=
  ⟨h.os, h.tape, h.output, h.size, fun k hk => h.block k (by omega) (hF k hk)⟩

theorem Kept.of_below {w w' : World} (h : Below w.heap.size w w') : Kept (fun _ => False) w w' :=
  ⟨h.os, h.tape, h.output, h.size, fun k hk _ => h.block k hk⟩

theorem Kept.cell {F : Nat → Prop} {w w' : World} (h : Kept F w w') {p : Addr} (hp : p.block < w.heap.size) (hF : ¬ F p.block) : w'.cell? p = w.cell? p :=
  World.cell?_of_block (w := w) (h.block p.block hp hF)

theorem Kept.frozen {F : Nat → Prop} {w w' : World} (h : Kept F w w') {p : Addr} (hp : p.block < w.heap.size) (hF : ¬ F p.block) : w'.frozen? p = w.frozen? p :=
  World.frozen?_of_block (w := w) (h.block p.block hp hF)

theorem Kept.heap {F : Nat → Prop} {w w' : World} (h : Kept F w w') {k : Nat} {o : Obj} (hk : w.heap[k]? = some o) (hF : ¬ F k) : w'.heap[k]? = some o :=
  (h.block k (lt_of_block hk) hF).trans hk

theorem Kept.owns {F : Nat → Prop} {w w' : World} {base : Nat} {e : TypeId} {size : Nat} {v : Value} {n : Nat} {xs : List Value} (hk : Kept F w w')
    (h : w.ownsRow base e size v n xs) (hF : ∀ g, v.ownBlock = some g → ¬ F g) : w'.ownsRow base e size v n xs := by
  refine ⟨h.1, ?_⟩
  rcases h.2 with hn | ⟨g, cap, cur, rfl, hb, hgg, rest⟩
  · exact .inl hn
  · exact .inr ⟨g, cap, cur, rfl, hb, hk.heap hgg (hF g rfl), rest⟩

/-- Cells of a block known whole. -/
theorem cell_of_heap {w : World} {b i : Nat} {cs : Array Value} {t : TypeId} {fr : Nat × Nat} (h : w.heap[b]? = some (.cells cs t fr)) : w.cell? ⟨b, i, none⟩ = cs[i]? := by
  simp [World.cell?, h]
theorem free_of_heap {w : World} {b i : Nat} {cs : Array Value} {t : TypeId} (h : w.heap[b]? = some (.cells cs t (0, 0))) : w.frozen? ⟨b, i, none⟩ = false := by
  simp [World.frozen?, h]

theorem heap_setCell {w : World} {b i : Nat} {cs : Array Value} {t : TypeId} {fr : Nat × Nat} (h : w.heap[b]? = some (.cells cs t fr)) (v : Value) :
    (w.setCell ⟨b, i, none⟩ v).heap[b]? = some (.cells (cs.setIfInBounds i v) t fr) := by
  simp [World.setCell, Array.getElem?_modify, h]

/-- A number of an int32 slice. -/
def I32 (n : Nat) : Value := .int .i32 n
theorem I32_def (n : Nat) : Value.int .i32 (n : Int) = I32 n := rfl
theorem I32_one (n : Nat) : (I32 n).oneCell' = true := rfl

theorem ownsRow_set {w : World} {base : Nat} {e : TypeId} {size g n cap : Nat} {xs : List Value} (h : w.ownsRow base e size (.slice (some ⟨g, 0, none⟩) n cap) n xs) (j : Nat) (u : Value) :
    (w.setCell ⟨g, j, none⟩ u).ownsRow base e size (.slice (some ⟨g, 0, none⟩) n cap) n (xs.set j u) := by
  obtain ⟨hl, h2⟩ := h
  refine ⟨by simpa using hl, ?_⟩
  rcases h2 with ⟨h2, _⟩ | ⟨g', cap', cur, hv, hb, hh, a1, a2, a3, a4⟩
  · cases h2
  · simp only [Value.slice.injEq, Option.some.injEq, Addr.mk.injEq] at hv
    obtain ⟨⟨rfl, _⟩, _, rfl⟩ := hv
    refine .inr ⟨g, cap, cur.setIfInBounds j u, rfl, hb, heap_setCell hh u, a1, a2, by simpa using a3, ?_⟩
    rw [← a4, Array.toList_setIfInBounds, List.take_set]

theorem ownsRow_elim {w : World} {base : Nat} {e : TypeId} {size g n cap : Nat} {xs : List Value} (h : w.ownsRow base e size (.slice (some ⟨g, 0, none⟩) n cap) n xs) : g < w.heap.size :=
  (h.lt g rfl).2

/-- A shorter slice of the same row. -/
theorem ownsRow_take {w : World} {base : Nat} {e : TypeId} {g n cap m : Nat} {xs : List Value} (h : w.ownsRow base e 1 (.slice (some ⟨g, 0, none⟩) n cap) n xs) (hm : m ≤ n) :
    w.ownsRow base e 1 (.slice (some ⟨g, 0, none⟩) m cap) m (xs.take m) := by
  obtain ⟨hl, h2⟩ := h
  refine ⟨by simp; omega, ?_⟩
  rcases h2 with ⟨h2, _⟩ | ⟨g', cap', cur, hv, hb, hh, a1, a2, a3, a4⟩
  · cases h2
  · simp only [Value.slice.injEq, Option.some.injEq, Addr.mk.injEq] at hv
    obtain ⟨⟨rfl, _⟩, _, rfl⟩ := hv
    refine .inr ⟨g, cap, cur, rfl, hb, hh, by omega, a2, a3, ?_⟩
    rw [← a4, List.take_take]
    congr 1
    omega
theorem ownsRow_cap {w : World} {base : Nat} {e : TypeId} {size g n cap : Nat} {xs : List Value} (h : w.ownsRow base e size (.slice (some ⟨g, 0, none⟩) n cap) n xs) : n ≤ cap ∧ cap ≤ maxLen := by
  obtain ⟨hl, h2⟩ := h
  rcases h2 with ⟨h2, _⟩ | ⟨g', cap', cur, hv, hb, hh, a1, a2, a3, a4⟩
  · cases h2
  · simp only [Value.slice.injEq, Option.some.injEq, Addr.mk.injEq] at hv
    obtain ⟨⟨rfl, _⟩, _, rfl⟩ := hv
    exact ⟨a1, a2⟩
end Go.Proofs.Qxb6000456a
