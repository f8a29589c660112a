import Derived.Test.Qxb6000456aEm
namespace Go.Proofs.Qxb6000456a
open Go.RowKit
set_option linter.unusedVariables false
set_option linter.unusedSimpArgs false

/-- What a part of a pattern emits: its code at a place, over the classes so far; the classes behind it. -/
structure PG where
  code : Nat → List S4 → List I
  sets : List S4 → List S4

/-- The emitter's plain state: instructions and classes. -/
structure St where
  P : List I
  L : List S4

def PG.step (g : PG) (s : St) : St := ⟨s.P ++ g.code s.P.length s.L, g.sets s.L⟩
def St.push (s : St) (i : I) : St := ⟨s.P ++ [i], s.L⟩

/-- k copies behind one another. -/
def PG.rep (g : PG) (s : St) : Nat → St
  | 0 => s
  | k + 1 => g.step (PG.rep g s k)

/-- k further copies, each behind a choice; the choices' places. -/
def PG.opt (g : PG) (s : St) : Nat → St × List Nat
  | 0 => (s, [])
  | k + 1 =>
    let t := PG.opt g s k
    (g.step (t.1.push ⟨1, 0, t.1.P.length + 1⟩), t.2 ++ [t.1.P.length])

def setArg (v : Nat) (P : List I) (s : Nat) : List I := P.modify s fun i => ⟨i.op, v, i.next⟩
def setNext (v : Nat) (P : List I) (s : Nat) : List I := P.modify s fun i => ⟨i.op, i.arg, v⟩
def patchArgs (P : List I) (sp : List Nat) (v : Nat) : List I := sp.foldl (setArg v) P
def patchNexts (P : List I) (sp : List Nat) (v : Nat) : List I := sp.foldl (setNext v) P

/-- What emitRepeat leaves; most < 0: without end. -/
def PG.loopEnd (g : PG) (s : St) : St :=
  let s2 := g.step (s.push ⟨1, 0, s.P.length + 1⟩)
  let s3 := s2.push ⟨2, 0, s.P.length⟩
  ⟨setArg s3.P.length s3.P s.P.length, s3.L⟩
def PG.optEnd (g : PG) (s : St) (k : Nat) : St :=
  let t := g.opt s k
  ⟨patchArgs t.1.P t.2 t.1.P.length, t.1.L⟩
def PG.repeat (g : PG) (s : St) (least : Nat) (most : Int) : St :=
  if most = -1 then g.loopEnd (g.rep s least) else g.optEnd (g.rep s least) (most - least).toNat

theorem setArg_length (v : Nat) (P : List I) (s : Nat) : (setArg v P s).length = P.length := by simp [setArg]
theorem setNext_length (v : Nat) (P : List I) (s : Nat) : (setNext v P s).length = P.length := by simp [setNext]
theorem patchArgs_length (P : List I) (sp : List Nat) (v : Nat) : (patchArgs P sp v).length = P.length := by
  unfold patchArgs
  induction sp generalizing P with
  | nil => rfl
  | cons a l ih => simp [ih, setArg_length]
theorem patchNexts_length (P : List I) (sp : List Nat) (v : Nat) : (patchNexts P sp v).length = P.length := by
  unfold patchNexts
  induction sp generalizing P with
  | nil => rfl
  | cons a l ih => simp [ih, setNext_length]
theorem patchArgs_snoc (P : List I) (sp : List Nat) (x v : Nat) : patchArgs P (sp ++ [x]) v = setArg v (patchArgs P sp v) x := by simp [patchArgs]
theorem patchNexts_snoc (P : List I) (sp : List Nat) (x v : Nat) : patchNexts P (sp ++ [x]) v = setNext v (patchNexts P sp v) x := by simp [patchNexts]

/-- A part whose code has always c instructions and makes at most c classes. -/
structure PG.Sized (g : PG) (c : Nat) : Prop where
  code : ∀ n L, (g.code n L).length = c
  sets : ∀ L, (g.sets L).length ≤ L.length + c

theorem PG.step_length {g : PG} {c : Nat} (h : g.Sized c) (s : St) : (g.step s).P.length = s.P.length + c := by simp [PG.step, h.code]
theorem PG.step_sets {g : PG} {c : Nat} (h : g.Sized c) (s : St) : (g.step s).L.length ≤ s.L.length + c := h.sets s.L
theorem PG.rep_length {g : PG} {c : Nat} (h : g.Sized c) (s : St) (k : Nat) : (g.rep s k).P.length = s.P.length + k * c := by
  induction k with
  | zero => simp [PG.rep]
  | succ k ih => rw [PG.rep, PG.step_length h, ih, Nat.succ_mul]; omega
theorem PG.rep_sets {g : PG} {c : Nat} (h : g.Sized c) (s : St) (k : Nat) (hs : s.L.length ≤ s.P.length) : (g.rep s k).L.length ≤ (g.rep s k).P.length := by
  induction k with
  | zero => exact hs
  | succ k ih =>
    have h1 := PG.step_length h (g.rep s k)
    have h2 := PG.step_sets h (g.rep s k)
    rw [PG.rep]; omega
theorem PG.opt_length {g : PG} {c : Nat} (h : g.Sized c) (s : St) (k : Nat) : (g.opt s k).1.P.length = s.P.length + k * (c + 1) := by
  induction k with
  | zero => simp [PG.opt]
  | succ k ih =>
    simp only [PG.opt]
    rw [PG.step_length h]
    simp only [St.push, List.length_append, List.length_cons, List.length_nil]
    rw [ih, Nat.succ_mul]; omega
theorem PG.opt_sets {g : PG} {c : Nat} (h : g.Sized c) (s : St) (k : Nat) (hs : s.L.length ≤ s.P.length) : (g.opt s k).1.L.length ≤ (g.opt s k).1.P.length := by
  induction k with
  | zero => exact hs
  | succ k ih =>
    have h1 := PG.step_length h ((g.opt s k).1.push ⟨1, 0, (g.opt s k).1.P.length + 1⟩)
    have h2 := PG.step_sets h ((g.opt s k).1.push ⟨1, 0, (g.opt s k).1.P.length + 1⟩)
    simp only [St.push, List.length_append, List.length_cons, List.length_nil] at h1 h2
    simp only [PG.opt, St.push]
    omega
theorem PG.opt_splits_length (g : PG) (s : St) (k : Nat) : (g.opt s k).2.length = k := by
  induction k with
  | zero => rfl
  | succ k ih => simp [PG.opt, ih]
theorem PG.opt_splits_lt {g : PG} {c : Nat} (h : g.Sized c) (s : St) (k : Nat) : ∀ x ∈ (g.opt s k).2, x < (g.opt s k).1.P.length := by
  induction k with
  | zero => intro x hx; simp [PG.opt] at hx
  | succ k ih =>
    intro x hx
    have h1 := PG.opt_length h s k
    have h2 := PG.opt_length h s (k + 1)
    rw [Nat.succ_mul] at h2
    simp only [PG.opt] at hx
    rcases List.mem_append.1 hx with hx | hx
    · have := ih x hx; omega
    · simp at hx; omega

/-! ### memory: a part's node -/
/-- A node n of a part g: what must hold of the world for 'emit' to be called on it (fp: the blocks that it lies in). -/
structure PartOK (n : Nat) (g : PG) (c : Nat) (fp : Nat → Prop) (Node : World → Prop) : Prop where
  sized : g.Sized c
  kept : ∀ {F : Nat → Prop} {w w' : World}, Node w → Kept F w w' → (∀ k, fp k → ¬ F k) → Node w'
  lt : ∀ {w : World}, Node w → ∀ k, fp k → k < w.heap.size
  call : ∀ (p m : Nat) (ai : Option Addr) (ci : Nat) (asx : Option Addr) (cs : Nat) (s : St) (w : World), s.P.length + c ≤ 4194304 → s.L.length ≤ s.P.length → EmAt w p m ai ci asx cs s.P s.L → Node w → (∀ k, fp k → ¬ emF p m ai asx k) →
    Calls Try.prog 33 #[.pointer (some ⟨p, 0, none⟩), .pointer (some ⟨n, 0, none⟩), .map (some m)] w fun e w' => e = .returned (.tuple #[]) ∧
      ∃ ai' ci' asx' cs', EmAt w' p m ai' ci' asx' cs' (g.step s).P (g.step s).L ∧ EmTo p m w w' ai asx ai' asx'

/-- The blocks of a node stay outside the program's. -/
theorem EmTo.apart {p m : Nat} {w w' : World} {ai asx ai' asx' : Option Addr} (h : EmTo p m w w' ai asx ai' asx') {fp : Nat → Prop} (hlt : ∀ k, fp k → k < w.heap.size) (ha : ∀ k, fp k → ¬ emF p m ai asx k) : ∀ k, fp k → ¬ emF p m ai' asx' k := by
  intro k hk e
  rcases h.foot k e with h1 | h1
  · exact ha k hk h1
  · have := hlt k hk; omega

theorem irow_setArg (P : List I) (s v : Nat) : (irow P).set (s * 3 + 1) (.int .i32 v) = irow (setArg v P s) := by
  induction P generalizing s with
  | nil => simp [irow, setArg]
  | cons a l ih =>
    have e : irow (a :: l) = icells a ++ irow l := rfl
    cases s with
    | zero => simp [irow, setArg, icells, List.modify]
    | succ s =>
      have := ih s
      have e2 : setArg v (a :: l) (s + 1) = a :: setArg v l s := by simp [setArg, List.modify]
      rw [e2, e]
      show (icells a ++ irow l).set ((s + 1) * 3 + 1) (.int .i32 v) = icells a ++ irow (setArg v l s)
      rw [← this]
      have e3 : (s + 1) * 3 + 1 = s * 3 + 1 + 1 + 1 + 1 := by omega
      rw [e3]
      simp [icells]
theorem irow_setNext (P : List I) (s v : Nat) : (irow P).set (s * 3 + 2) (.int .i32 v) = irow (setNext v P s) := by
  induction P generalizing s with
  | nil => simp [irow, setNext]
  | cons a l ih =>
    have e : irow (a :: l) = icells a ++ irow l := rfl
    cases s with
    | zero => simp [irow, setNext, icells, List.modify]
    | succ s =>
      have := ih s
      have e2 : setNext v (a :: l) (s + 1) = a :: setNext v l s := by simp [setNext, List.modify]
      rw [e2, e]
      show (icells a ++ irow l).set ((s + 1) * 3 + 2) (.int .i32 v) = icells a ++ irow (setNext v l s)
      rw [← this]
      have e3 : (s + 1) * 3 + 2 = s * 3 + 2 + 1 + 1 + 1 := by omega
      rw [e3]
      simp [icells]
end Go.Proofs.Qxb6000456a
