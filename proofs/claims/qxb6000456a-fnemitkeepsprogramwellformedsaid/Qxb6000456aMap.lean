import Derived.Test.Qxb6000456aMat
import Derived.Maps.Keyed
import Derived.DeepKeys4
namespace Go.Proofs.Qxb6000456a
open Go.RowKit Go.Maps
set_option linter.unusedVariables false
set_option linter.unusedSimpArgs false
theorem Try.laidOut : laidOutB Try.prog = true := by kernel_rfl
theorem Try.row53 : 53 < Try.prog.types.size := of_decide_eq_true (by kernel_rfl)
theorem Try.wide53 : (match Try.prog.underlying 53 with | some (.array _ _) | some (.struct _) => true | _ => false) = true := by rw [Try.underlying53]
theorem law53 : Keyed Try.prog 53 := Keyed.of_law (deep_law_laid Try.laidOut (m := 2) (by omega) Try.row53 (by kernel_rfl) Try.wide53)
def S4.val (x : S4) : Value := .agg #[.int .u64 x.a, .int .u64 x.b, .int .u64 x.c, .int .u64 x.d]
def u64ok (n : Int) : Prop := 0 ≤ n ∧ n < 18446744073709551616
structure S4.Wf (x : S4) : Prop where
  a : u64ok x.a
  b : u64ok x.b
  c : u64ok x.c
  d : u64ok x.d
theorem keyType53 : Try.prog.keyType 53 = true := by kernel_rfl
theorem types96 : Try.prog.types.size = 96 := by kernel_rfl
theorem Try.cells53 : Try.prog.cellsOf 53 = 4 := by kernel_rfl
theorem Try.cells31 : Try.prog.cellsOf 31 = 1 := by kernel_rfl
theorem wf_u64 {n : Int} (h : u64ok n) : (Lit.int .u64 n).wf = true := WalkArith.wf_u64 (by have := h.1; have := h.2; omega)
theorem kl31 (d : Nat) {n : Int} (h : u64ok n) : Try.prog.keyLits (d + 1) 31 [.int .u64 n] = some [.int .u64 n] := by
  simp only [Program.keyLits, Try.underlying31, wf_u64 h, and_self, if_true]
theorem kl53 (d : Nat) (x : S4) (h : x.Wf) : Try.prog.keyLits (d + 1 + 1) 53 [.int .u64 x.a, .int .u64 x.b, .int .u64 x.c, .int .u64 x.d] = some [.int .u64 x.a, .int .u64 x.b, .int .u64 x.c, .int .u64 x.d] := by
  have hr : List.range 4 = [0, 1, 2, 3] := by decide
  rw [Program.keyLits]
  case heq => exact Try.underlying53
  simp only [hr, Try.cells53, Try.cells31]
  simp [kl31 d h.a, kl31 d h.b, kl31 d h.c, kl31 d h.d]
theorem key53 (x : S4) (h : x.Wf) : ∃ l, keyOf Try.prog 53 x.val = some l := by
  unfold keyOf
  rw [Try.underlying53]
  have hf : x.val.formed Try.prog 53 = true := by simp [S4.val, Value.formed, Try.underlying53, Try.cells53]
  have e : Try.prog.keyLits 97 53 x.val.cells.toList = some [.int .u64 x.a, .int .u64 x.b, .int .u64 x.c, .int .u64 x.d] := by
    exact kl53 95 x h
  simp only [keyType53, Bool.true_and, hf, if_true, types96]
  rw [e]
  exact ⟨_, rfl⟩

theorem S4.val_inj {x y : S4} (h : x.val = y.val) : x = y := by
  cases x; cases y
  simp [S4.val] at h
  simp [h]

def S4.same (x y : S4) : Bool := x.a == y.a && x.b == y.b && x.c == y.c && x.d == y.d
theorem S4.same_iff (x y : S4) : x.same y = true ↔ x = y := by
  cases x; cases y
  simp [S4.same, and_assoc]
theorem S4.same_false (x y : S4) : x.same y = false ↔ x ≠ y := by
  rw [← Bool.not_eq_true, S4.same_iff]

/-- Where x stands in L; L's length where it does not. -/
def setIdx (L : List S4) (x : S4) : Nat := L.findIdx (S4.same x)
def addSet (L : List S4) (x : S4) : List S4 := if setIdx L x < L.length then L else L ++ [x]

theorem setIdx_le (L : List S4) (x : S4) : setIdx L x ≤ L.length := List.findIdx_le_length
theorem setIdx_mem {L : List S4} {x : S4} (h : setIdx L x < L.length) : L[setIdx L x]? = some x := by
  have := List.findIdx_getElem (w := h)
  rw [List.getElem?_eq_getElem h]
  rw [S4.same_iff] at this
  exact congrArg some this.symm
theorem setIdx_lt_iff (L : List S4) (x : S4) : setIdx L x < L.length ↔ x ∈ L := by
  constructor
  · intro h
    exact List.mem_of_getElem? (setIdx_mem h)
  · intro h
    exact List.findIdx_lt_length_of_exists ⟨x, h, (S4.same_iff x x).2 rfl⟩
theorem addSet_get (L : List S4) (x : S4) : (addSet L x)[setIdx L x]? = some x := by
  unfold addSet
  split
  · rename_i h; exact setIdx_mem h
  · rename_i h
    have : setIdx L x = L.length := by have := setIdx_le L x; omega
    rw [this]
    simp
theorem addSet_nodup {L : List S4} (x : S4) (h : L.Nodup) : (addSet L x).Nodup := by
  unfold addSet
  split
  · exact h
  · rename_i hn
    rw [setIdx_lt_iff] at hn
    rw [List.nodup_append]
    exact ⟨h, by simp, fun a ha b hb => by simp at hb; subst hb; rintro rfl; exact hn ha⟩

/-- The map of byte sets at block m: set i under i. -/
def mpairs (L : List S4) : List (Value × Value) := L.zipIdx.map fun xi => (xi.1.val, .int .i32 xi.2)
def MpAt (w : World) (m : Nat) (L : List S4) : Prop :=
  ∃ es clock, w.heap[m]? = some (.map es clock) ∧ es.toList.map (fun e => (e.key, e.val)) = mpairs L

theorem MpAt.lt {w : World} {m : Nat} {L : List S4} (h : MpAt w m L) : m < w.heap.size := by
  obtain ⟨es, clock, hb, _⟩ := h
  exact lt_of_block hb
theorem MpAt.kept {F : Nat → Prop} {w w' : World} {m : Nat} {L : List S4} (h : MpAt w m L) (hk : Kept F w w') (hF : ¬ F m) : MpAt w' m L := by
  obtain ⟨es, clock, hb, he⟩ := h
  exact ⟨es, clock, hk.heap hb hF, he⟩

theorem mpairs_get (L : List S4) (j : Nat) : (mpairs L)[j]? = (L[j]?).map fun x => (x.val, .int .i32 j) := by
  unfold mpairs
  rw [List.getElem?_map, List.getElem?_zipIdx]
  cases L[j]? <;> simp

theorem mpairs_snoc (L : List S4) (x : S4) : mpairs (L ++ [x]) = mpairs L ++ [(x.val, .int .i32 L.length)] := by
  unfold mpairs
  rw [List.zipIdx_append]
  simp

theorem zero21 (w : World) : (zeroValue 21).run Try.prog w = .ok (.int .i32 0) w := by kernel_rfl

theorem nodup_inj {α : Type} {l : List α} (h : l.Nodup) {i j : Nat} (hi : i < l.length) (hj : j < l.length) (e : l[i] = l[j]) : i = j := by
  unfold List.Nodup at h
  rw [List.pairwise_iff_getElem] at h
  rcases Nat.lt_trichotomy i j with hlt | rfl | hlt
  · exact (h i j hi hj hlt e).elim
  · rfl
  · exact (h j i hj hi hlt e.symm).elim

/-- What the entries at block m give at a byte set. -/
theorem find_of {w : World} {L : List S4} {es : Array MapEntry} (he : es.toList.map (fun e => (e.key, e.val)) = mpairs L) (hwf : ∀ x ∈ L, x.Wf) (hnd : L.Nodup) (x : S4) (hx : x.Wf) :
    (setIdx L x < L.length ∧ (Instr.findKey 53 x.val es.toList).run Try.prog w = .ok (some (setIdx L x, .int .i32 (setIdx L x))) w) ∨
    (¬ setIdx L x < L.length ∧ (Instr.findKey 53 x.val es.toList).run Try.prog w = .ok none w) := by
  obtain ⟨l, hl⟩ := key53 x hx
  have hget : ∀ (j : Nat) (e : MapEntry), es.toList[j]? = some e → ∃ y : S4, L[j]? = some y ∧ e.key = y.val ∧ e.val = .int .i32 j := by
    intro j e hj
    have h1 : (es.toList.map (fun e => (e.key, e.val)))[j]? = some (e.key, e.val) := by rw [List.getElem?_map, hj]; rfl
    rw [he, mpairs_get] at h1
    cases hL : L[j]? with
    | none => rw [hL] at h1; cases h1
    | some y =>
      rw [hL] at h1
      simp at h1
      exact ⟨y, rfl, h1.1.symm, h1.2.symm⟩
  have hkeys : ∀ e ∈ es.toList, ∃ l, keyOf Try.prog 53 e.key = some l := by
    intro e hem
    obtain ⟨j, hj⟩ := List.getElem?_of_mem hem
    obtain ⟨y, hy, hk, _⟩ := hget j e hj
    rw [hk]
    exact key53 y (hwf y (List.mem_of_getElem? hy))
  rcases law53.find w hl es.toList hkeys with ⟨h1, h2⟩ | ⟨j, e, h1, h2, h3⟩
  · right
    refine ⟨fun hlt => ?_, h1⟩
    have hm := (setIdx_lt_iff L x).1 hlt
    obtain ⟨j, hj⟩ := List.getElem?_of_mem hm
    have hlen : es.toList.length = L.length := by
      have := congrArg List.length he
      simpa [mpairs] using this
    have hjl : j < es.toList.length := by rw [hlen]; exact (List.getElem?_eq_some_iff.1 hj).1
    obtain ⟨y, hy, hk, _⟩ := hget j es.toList[j] (List.getElem?_eq_getElem hjl)
    rw [hj] at hy
    cases hy
    exact h2 _ (List.getElem_mem hjl) hk
  · left
    obtain ⟨y, hy, hk, hv⟩ := hget j e h2
    have hyx : y = x := S4.val_inj (hk.symm.trans h3)
    subst hyx
    have hlt := (setIdx_lt_iff L y).2 (List.mem_of_getElem? hy)
    have hs := setIdx_mem hlt
    have hjj : setIdx L y = j := by
      have hj := (List.getElem?_eq_some_iff.1 hy).1
      have e1 := (List.getElem?_eq_some_iff.1 hy).2
      have e2 := (List.getElem?_eq_some_iff.1 hs).2
      exact nodup_inj hnd hlt hj (e2.trans e1.symm)
    refine ⟨hlt, ?_⟩
    rw [h1, hv, hjj]

theorem MpAt.look {w : World} {m : Nat} {L : List S4} (h : MpAt w m L) (hwf : ∀ x ∈ L, x.Wf) (hnd : L.Nodup) (x : S4) (hx : x.Wf) :
    (Instr.lookup 35 (.map (some m)) x.val true).run Try.prog w = .ok (.tuple #[.int .i32 (if setIdx L x < L.length then (setIdx L x : Int) else 0), .bool (decide (setIdx L x < L.length))]) w := by
  obtain ⟨es, clock, hb, he⟩ := h
  obtain ⟨l, hl⟩ := key53 x hx
  have hc := law53.check w es.isEmpty hl
  rcases find_of (w := w) he hwf hnd x hx with ⟨h1, h2⟩ | ⟨h1, h2⟩
  · simp [Instr.lookup, run_underlying Try.underlying35, MapKept.run_getObj_map hb, hc, h2, h1, Result.andThen]
  · simp [Instr.lookup, run_underlying Try.underlying35, MapKept.run_getObj_map hb, hc, h2, h1, zero21, Result.andThen]

theorem MpAt.put {w : World} {m : Nat} {L : List S4} (h : MpAt w m L) (hwf : ∀ x ∈ L, x.Wf) (hnd : L.Nodup) (x : S4) (hx : x.Wf) (hn : ¬ setIdx L x < L.length) :
    ∃ w', (Instr.mapUpdate 35 (.map (some m)) x.val (.int .i32 L.length)).run Try.prog w = .ok () w' ∧ MpAt w' m (L ++ [x]) ∧ Kept (fun k => k = m) w w' := by
  obtain ⟨es, clock, hb, he⟩ := h
  obtain ⟨l, hl⟩ := key53 x hx
  have hc := law53.check w false hl
  rcases find_of (w := w) he hwf hnd x hx with ⟨h1, h2⟩ | ⟨h1, h2⟩
  · exact (hn h1).elim
  · refine ⟨{ w with heap := w.heap.setIfInBounds m (.map (es.push { key := x.val, val := .int .i32 L.length, born := clock }) (clock + 1)) }, ?_, ?_, ?_⟩
    · simp [Instr.mapUpdate, run_underlying Try.underlying35, MapKept.run_getObj_map hb, hc, h2, MapKept.run_setObj_map _ hb, Result.andThen]
    · refine ⟨es.push { key := x.val, val := .int .i32 L.length, born := clock }, clock + 1, ?_, ?_⟩
      · have := lt_of_block hb
        simp [this]
      · rw [mpairs_snoc, ← he]
        simp
    · refine ⟨rfl, rfl, rfl, by simp, fun k hk hne => ?_⟩
      show (w.heap.setIfInBounds m _)[k]? = _
      rw [Array.getElem?_setIfInBounds_ne (by omega)]
end Go.Proofs.Qxb6000456a
