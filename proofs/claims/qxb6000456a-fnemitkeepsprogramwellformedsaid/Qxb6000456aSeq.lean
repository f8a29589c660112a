import Derived.Test.Qxb6000456aOk
namespace Go.Proofs.Qxb6000456a
open Go.RowKit
set_option linter.unusedVariables false
set_option linter.unusedSimpArgs false

/-! ### the byte set of one byte -/
def single (c : UInt8) : S4 :=
  ⟨if c.toNat / 64 = 0 then IntKind.u64.wrap (2 ^ (c.toNat % 64)) else 0, if c.toNat / 64 = 1 then IntKind.u64.wrap (2 ^ (c.toNat % 64)) else 0,
   if c.toNat / 64 = 2 then IntKind.u64.wrap (2 ^ (c.toNat % 64)) else 0, if c.toNat / 64 = 3 then IntKind.u64.wrap (2 ^ (c.toNat % 64)) else 0⟩

theorem bits_one : ∀ i : Fin 64, ∀ j : Fin 64, (bits BinOp.and IntKind.u64 (IntKind.u64.wrap (2 ^ i.val)) (IntKind.u64.wrap (2 ^ j.val)) != 0) = decide (i = j) := by decide +kernel
theorem bits_none : ∀ j : Fin 64, (bits BinOp.and IntKind.u64 0 (IntKind.u64.wrap (2 ^ j.val)) != 0) = false := by decide +kernel

theorem single_word (c : UInt8) (i : Nat) (hi : i < 4) : (single c).word i = if c.toNat / 64 = i then IntKind.u64.wrap (2 ^ (c.toNat % 64)) else 0 := by
  match i, hi with
  | 0, _ => rfl
  | 1, _ => rfl
  | 2, _ => rfl
  | 3, _ => rfl

theorem single_has (c d : UInt8) : (single c).has d = true ↔ c = d := by
  have hc : c.toNat < 256 := UInt8.toNat_lt c
  have hd : d.toNat < 256 := UInt8.toNat_lt d
  unfold S4.has
  rw [single_word c _ (by omega)]
  split
  · rename_i h
    have h1 := bits_one ⟨c.toNat % 64, by omega⟩ ⟨d.toNat % 64, by omega⟩
    unfold inB
    rw [h1]
    simp only [decide_eq_true_eq, Fin.mk.injEq]
    constructor
    · intro h2
      exact UInt8.toNat.inj (by omega)
    · rintro rfl; rfl
  · rename_i h
    have h1 := bits_none ⟨d.toNat % 64, by omega⟩
    unfold inB
    rw [h1]
    constructor
    · intro h2; cases h2
    · rintro rfl; exact (h rfl).elim

theorem wrap_pow_ok : ∀ i : Fin 64, 0 ≤ IntKind.u64.wrap (2 ^ i.val) ∧ IntKind.u64.wrap (2 ^ i.val) < 18446744073709551616 := by decide +kernel
theorem single_wf (c : UInt8) : (single c).Wf := by
  have h := wrap_pow_ok ⟨c.toNat % 64, by omega⟩
  have h0 : u64ok 0 := ⟨by omega, by omega⟩
  refine ⟨?_, ?_, ?_, ?_⟩ <;> (simp only [single]; split <;> first | exact h | exact h0)

theorem single_inj {c d : UInt8} (h : single c = single d) : c = d := by
  have h1 : (single c).has d = true := by rw [h]; exact (single_has d d).2 rfl
  exact (single_has c d).1 h1

/-! ### a sequence of byte sets -/
def seqCode : List S4 → Nat → List S4 → List I
  | [], _, _ => []
  | x :: xs, n, L => ⟨0, setIdx L x, n + 1⟩ :: seqCode xs (n + 1) (addSet L x)
def seqG (xs : List S4) : PG := ⟨seqCode xs, fun L => xs.foldl addSet L⟩

/-- As the emitter goes: one behind the other. -/
def seqTo (s : St) (xs : List S4) : St := xs.foldl (fun s x => (byteG x).step s) s

theorem seqTo_eq (xs : List S4) : ∀ s, seqTo s xs = (seqG xs).step s := by
  induction xs with
  | nil => intro s; simp [seqTo, seqG, seqCode, PG.step]
  | cons x xs ih =>
    intro s
    have e : seqTo s (x :: xs) = seqTo ((byteG x).step s) xs := rfl
    rw [e, ih]
    simp [seqG, seqCode, PG.step, byteG]
theorem seqTo_snoc (s : St) (xs : List S4) (x : S4) : seqTo s (xs ++ [x]) = (byteG x).step (seqTo s xs) := by simp [seqTo]

theorem seqCode_length (xs : List S4) : ∀ n L, (seqCode xs n L).length = xs.length := by
  induction xs with
  | nil => intro n L; rfl
  | cons x xs ih => intro n L; simp [seqCode, ih]
theorem foldSets_length (xs : List S4) : ∀ L, (xs.foldl addSet L).length ≤ L.length + xs.length := by
  induction xs with
  | nil => intro L; simp
  | cons x xs ih =>
    intro L
    have h1 := ih (addSet L x)
    have h2 := addSet_length L x
    simp only [List.foldl_cons, List.length_cons]
    omega
theorem foldSets_prefix (xs : List S4) : ∀ L, L <+: xs.foldl addSet L := by
  induction xs with
  | nil => intro L; exact List.prefix_refl _
  | cons x xs ih => intro L; exact (addSet_prefix L x).trans (ih (addSet L x))
theorem seqG_sized (xs : List S4) : (seqG xs).Sized xs.length := ⟨fun n L => seqCode_length xs n L, fun L => foldSets_length xs L⟩
theorem seqG_good (xs : List S4) : (seqG xs).Good xs.length := by
  refine ⟨seqG_sized xs, fun L => foldSets_prefix xs L, ?_⟩
  show ∀ n L, ∀ i ∈ seqCode xs n L, Inside (n + xs.length) (xs.foldl addSet L).length i
  induction xs with
  | nil => intro n L i hi; simp [seqCode] at hi
  | cons x xs ih =>
    intro n L i hi
    simp only [seqCode, List.mem_cons] at hi
    simp only [List.foldl_cons, List.length_cons]
    rcases hi with rfl | hi
    · have h1 := (List.getElem?_eq_some_iff.1 (addSet_get L x)).1
      have h2 := (foldSets_prefix xs (addSet L x)).length_le
      exact .inl ⟨rfl, by simp; omega, by simp⟩
    · exact (ih (n + 1) (addSet L x) i hi).mono (by omega) (Nat.le_refl _)

def seqR : List S4 → List UInt8 → Prop
  | [], u => u = []
  | x :: xs, u => ∃ c u', u = c :: u' ∧ x.has c = true ∧ seqR xs u'

theorem lies_tail {Q : List I} {a : Nat} {i : I} {l : List I} (h : Lies Q a (i :: l)) : Q[a]? = some i ∧ Lies Q (a + 1) l := by
  refine ⟨by simpa using h 0 i rfl, fun j k hj => ?_⟩
  have := h (j + 1) k (by simpa using hj)
  rw [show a + 1 + j = a + (j + 1) from by omega]
  exact this

theorem seqG_recog (xs : List S4) : Recog (seqG xs) xs.length (seqR xs) := by
  refine ⟨seqG_sized xs, fun L => foldSets_prefix xs L, ?_, ?_⟩
  · show ∀ (Q : List I) (Lf : List S4) (a : Nat) (L : List S4), xs.foldl addSet L <+: Lf → Lies Q a (seqCode xs a L) → ∀ n u, AccN Q (hasOf Lf) n a u → ∃ u1 u2 n', n' ≤ n ∧ u = u1 ++ u2 ∧ seqR xs u1 ∧ AccN Q (hasOf Lf) n' (a + xs.length) u2
    induction xs with
    | nil => intro Q Lf a L _ _ n u h; exact ⟨[], u, n, Nat.le_refl _, rfl, rfl, h⟩
    | cons x xs ih =>
      intro Q Lf a L hL hl n u h
      obtain ⟨q, hl'⟩ := lies_tail hl
      obtain ⟨m, c, u', hm, rfl, hc, h2⟩ := AccN.byte q h
      rw [hasOf_prefix ((foldSets_prefix xs (addSet L x)).trans hL) (addSet_get L x)] at hc
      obtain ⟨u1, u2, n', hn', rfl, hr, h3⟩ := ih Q Lf (a + 1) (addSet L x) hL hl' m u' h2
      refine ⟨c :: u1, u2, n', by omega, rfl, ⟨c, u1, rfl, hc, hr⟩, ?_⟩
      simp only [List.length_cons]
      rw [show a + (xs.length + 1) = a + 1 + xs.length from by omega]
      exact h3
  · show ∀ (Q : List I) (Lf : List S4) (a : Nat) (L : List S4), xs.foldl addSet L <+: Lf → Lies Q a (seqCode xs a L) → ∀ u1 u2, seqR xs u1 → Acc Q (hasOf Lf) (a + xs.length) u2 → Acc Q (hasOf Lf) a (u1 ++ u2)
    induction xs with
    | nil => intro Q Lf a L _ _ u1 u2 h1 h2; cases h1; exact h2
    | cons x xs ih =>
      rintro Q Lf a L hL hl u1 u2 ⟨c, u', rfl, hc, hr⟩ h2
      obtain ⟨q, hl'⟩ := lies_tail hl
      simp only [List.length_cons] at h2
      rw [show a + (xs.length + 1) = a + 1 + xs.length from by omega] at h2
      have h3 := ih Q Lf (a + 1) (addSet L x) hL hl' u' u2 hr h2
      exact Acc.byte' q (by rw [hasOf_prefix ((foldSets_prefix xs (addSet L x)).trans hL) (addSet_get L x)]; exact hc) h3

/-- A literal: its bytes' own sets. -/
theorem seqR_lit (w : List UInt8) : ∀ u, seqR (w.map single) u ↔ u = w := by
  induction w with
  | nil => intro u; exact Iff.rfl
  | cons c w ih =>
    intro u
    constructor
    · rintro ⟨d, u', rfl, hd, hr⟩
      rw [(single_has c d).1 hd, (ih u').1 hr]
    · rintro rfl
      exact ⟨c, w, rfl, (single_has c c).2 rfl, (ih w).2 rfl⟩
end Go.Proofs.Qxb6000456a
