import Derived.Test.Qxb6000456aSeq
namespace Go.Proofs.Qxb6000456a
open Go.RowKit
set_option linter.unusedVariables false
set_option linter.unusedSimpArgs false

/-! ### alternatives: each but the last split from those behind it, and a jump past them -/
def altBlock (e : Nat) (z : List S4) (n : Nat) (L : List S4) : List I := ⟨1, n + z.length + 2, n + 1⟩ :: (seqCode z (n + 1) L ++ [⟨2, 0, e⟩])
def preLen : List (List S4) → Nat
  | [] => 0
  | z :: zs => z.length + 2 + preLen zs
def preSets : List (List S4) → List S4 → List S4
  | [], L => L
  | z :: zs, L => preSets zs (z.foldl addSet L)
def preCode (e : Nat) : List (List S4) → Nat → List S4 → List I
  | [], _, _ => []
  | z :: zs, n, L => altBlock e z n L ++ preCode e zs (n + z.length + 2) (z.foldl addSet L)
def preJ : List (List S4) → Nat → List Nat
  | [], _ => []
  | z :: zs, n => (n + z.length + 1) :: preJ zs (n + z.length + 2)

theorem altBlock_length (e : Nat) (z : List S4) (n : Nat) (L : List S4) : (altBlock e z n L).length = z.length + 2 := by simp [altBlock, seqCode_length]
theorem preCode_length (e : Nat) (zs : List (List S4)) : ∀ n L, (preCode e zs n L).length = preLen zs := by
  induction zs with
  | nil => intro n L; rfl
  | cons z zs ih => intro n L; simp [preCode, preLen, ih, altBlock_length]
theorem preJ_length (zs : List (List S4)) : ∀ n, (preJ zs n).length = zs.length := by
  induction zs with
  | nil => intro n; rfl
  | cons z zs ih => intro n; simp [preJ, ih]
theorem preLen_snoc (zs : List (List S4)) (z : List S4) : preLen (zs ++ [z]) = preLen zs + z.length + 2 := by
  induction zs with
  | nil => simp [preLen]
  | cons y zs ih => simp [preLen, ih]; omega
theorem preSets_snoc (zs : List (List S4)) (z : List S4) : ∀ L, preSets (zs ++ [z]) L = z.foldl addSet (preSets zs L) := by
  induction zs with
  | nil => intro L; rfl
  | cons y zs ih => intro L; simp [preSets, ih]
theorem preCode_snoc (e : Nat) (zs : List (List S4)) (z : List S4) : ∀ n L, preCode e (zs ++ [z]) n L = preCode e zs n L ++ altBlock e z (n + preLen zs) (preSets zs L) := by
  induction zs with
  | nil => intro n L; simp [preCode, preLen, preSets]
  | cons y zs ih =>
    intro n L
    simp only [List.cons_append, preCode, ih, preLen, preSets, List.append_assoc]
    rw [show n + (y.length + 2 + preLen zs) = n + y.length + 2 + preLen zs from by omega]
theorem preJ_snoc (zs : List (List S4)) (z : List S4) : ∀ n, preJ (zs ++ [z]) n = preJ zs n ++ [n + preLen zs + z.length + 1] := by
  induction zs with
  | nil => intro n; simp [preJ, preLen]
  | cons y zs ih =>
    intro n
    simp only [List.cons_append, preJ, ih, preLen]
    rw [show n + (y.length + 2 + preLen zs) = n + y.length + 2 + preLen zs from by omega]
theorem preJ_lt (zs : List (List S4)) : ∀ n, ∀ x ∈ preJ zs n, x < n + preLen zs := by
  induction zs with
  | nil => intro n x hx; cases hx
  | cons z zs ih =>
    intro n x hx
    simp only [preJ, List.mem_cons] at hx
    simp only [preLen]
    rcases hx with rfl | hx
    · omega
    · have := ih _ x hx; omega
theorem preSets_prefix (zs : List (List S4)) : ∀ L, L <+: preSets zs L := by
  induction zs with
  | nil => intro L; exact List.prefix_refl _
  | cons z zs ih => intro L; exact (foldSets_prefix z L).trans (ih _)
theorem preSets_length (zs : List (List S4)) : ∀ L, (preSets zs L).length ≤ L.length + preLen zs := by
  induction zs with
  | nil => intro L; simp [preSets]
  | cons z zs ih =>
    intro L
    have h1 := ih (z.foldl addSet L)
    have h2 := foldSets_length z L
    simp only [preSets, preLen]
    omega
theorem preLen_take (zs : List (List S4)) : ∀ k, preLen (zs.take k) ≤ preLen zs := by
  induction zs with
  | nil => intro k; simp [preLen]
  | cons z zs ih =>
    intro k
    cases k with
    | zero => simp [preLen]
    | succ k => simp only [List.take_succ_cons, preLen]; have := ih k; omega

theorem setArg_mid (v o x t : Nat) (A B : List I) : setArg v (A ++ ⟨o, x, t⟩ :: B) A.length = A ++ ⟨o, v, t⟩ :: B := by
  unfold setArg
  induction A with
  | nil => rfl
  | cons a A ih => simp only [List.cons_append, List.length_cons, List.modify_succ_cons, ih]
theorem setNext_mid (v o x t : Nat) (A B : List I) : setNext v (A ++ ⟨o, x, t⟩ :: B) A.length = A ++ ⟨o, x, v⟩ :: B := by
  unfold setNext
  induction A with
  | nil => rfl
  | cons a A ih => simp only [List.cons_append, List.length_cons, List.modify_succ_cons, ih]

theorem patch_pre (e : Nat) (zs : List (List S4)) : ∀ (A T : List I) (L : List S4), patchNexts (A ++ preCode 0 zs A.length L ++ T) (preJ zs A.length) e = A ++ preCode e zs A.length L ++ T := by
  induction zs with
  | nil => intro A T L; rfl
  | cons z zs ih =>
    intro A T L
    have h1 : A ++ preCode 0 (z :: zs) A.length L ++ T = (A ++ (⟨1, A.length + z.length + 2, A.length + 1⟩ :: seqCode z (A.length + 1) L)) ++ ⟨2, 0, 0⟩ :: (preCode 0 zs (A.length + z.length + 2) (z.foldl addSet L) ++ T) := by
      simp [preCode, altBlock]
    have h2 : (A ++ (⟨1, A.length + z.length + 2, A.length + 1⟩ :: seqCode z (A.length + 1) L)).length = A.length + z.length + 1 := by
      simp [seqCode_length]; omega
    have h3 : (A ++ altBlock e z A.length L).length = A.length + z.length + 2 := by simp [altBlock_length]; omega
    have h4 := ih (A ++ altBlock e z A.length L) T (z.foldl addSet L)
    rw [h3] at h4
    have h5 : A ++ preCode e (z :: zs) A.length L ++ T = A ++ altBlock e z A.length L ++ preCode e zs (A.length + z.length + 2) (z.foldl addSet L) ++ T := by simp [preCode]
    rw [h5, ← h4, h1]
    show patchNexts (setNext e _ (A.length + z.length + 1)) (preJ zs (A.length + z.length + 2)) e = _
    rw [← h2, setNext_mid]
    congr 1
    simp [altBlock]

/-- The part: zs, and the last one y. -/
def altG (zs : List (List S4)) (y : List S4) : PG :=
  ⟨fun n L => preCode (n + (preLen zs + y.length)) zs n L ++ seqCode y (n + preLen zs) (preSets zs L), fun L => y.foldl addSet (preSets zs L)⟩

theorem altG_sized (zs : List (List S4)) (y : List S4) : (altG zs y).Sized (preLen zs + y.length) := by
  refine ⟨fun n L => ?_, fun L => ?_⟩
  · simp [altG, preCode_length, seqCode_length]
  · have h1 := foldSets_length y (preSets zs L)
    have h2 := preSets_length zs L
    simp only [altG]
    omega

theorem preCode_inside (e b M : Nat) (zs : List (List S4)) : ∀ n L, n + preLen zs ≤ b → e ≤ b → (preSets zs L).length ≤ M → ∀ i ∈ preCode e zs n L, Inside b M i := by
  induction zs with
  | nil => intro n L _ _ _ i hi; cases hi
  | cons z zs ih =>
    intro n L hb he hM i hi
    simp only [preLen] at hb
    simp only [preSets] at hM
    have hM2 := (preSets_prefix zs (z.foldl addSet L)).length_le
    simp only [preCode, altBlock, List.mem_append, List.mem_cons] at hi
    rcases hi with (rfl | hi | hi) | hi
    · exact .inr (.inl ⟨rfl, by simp; omega, by simp; omega⟩)
    · exact ((seqG_good z).inside (n + 1) L i hi).mono (by omega) (Nat.le_trans hM2 hM)
    · rcases hi with rfl | hi
      · exact .inr (.inr ⟨rfl, Nat.zero_le _, he⟩)
      · cases hi
    · exact ih _ _ (by omega) he hM i hi

theorem altG_good (zs : List (List S4)) (y : List S4) : (altG zs y).Good (preLen zs + y.length) := by
  refine ⟨altG_sized zs y, fun L => (preSets_prefix zs L).trans (foldSets_prefix y _), ?_⟩
  intro n L i hi
  simp only [altG] at hi ⊢
  have hp := (foldSets_prefix y (preSets zs L)).length_le
  rcases List.mem_append.1 hi with hi | hi
  · exact preCode_inside _ _ _ zs n L (by omega) (Nat.le_refl _) hp i hi
  · exact ((seqG_good y).inside (n + preLen zs) (preSets zs L) i hi).mono (by omega) (Nat.le_refl _)

theorem lies_append {Q : List I} {a : Nat} {A B : List I} (h : Lies Q a (A ++ B)) : Lies Q a A ∧ Lies Q (a + A.length) B := by
  refine ⟨fun j i hj => ?_, fun j i hj => ?_⟩
  · exact h j i (by rw [List.getElem?_append_left (List.getElem?_eq_some_iff.1 hj).1]; exact hj)
  · have := h (A.length + j) i (by rw [List.getElem?_append_right (by omega)]; simpa using hj)
    rw [show a + A.length + j = a + (A.length + j) from by omega]
    exact this

def altR (zs : List (List S4)) (y : List S4) (u : List UInt8) : Prop := (∃ z ∈ zs, seqR z u) ∨ seqR y u

theorem altG_recog (zs : List (List S4)) (y : List S4) : Recog (altG zs y) (preLen zs + y.length) (altR zs y) := by
  refine ⟨altG_sized zs y, fun L => (preSets_prefix zs L).trans (foldSets_prefix y _), ?_, ?_⟩
  · have key : ∀ (zs : List (List S4)) (Q : List I) (Lf : List S4) (e a : Nat) (L : List S4), e = a + (preLen zs + y.length) → y.foldl addSet (preSets zs L) <+: Lf → Lies Q a (preCode e zs a L ++ seqCode y (a + preLen zs) (preSets zs L)) →
        ∀ n u, AccN Q (hasOf Lf) n a u → ∃ u1 u2 n', n' ≤ n ∧ u = u1 ++ u2 ∧ altR zs y u1 ∧ AccN Q (hasOf Lf) n' e u2 := by
      intro zs
      induction zs with
      | nil =>
        intro Q Lf e a L he hL hl n u h
        simp only [preCode, preLen, preSets, List.nil_append, Nat.add_zero, Nat.zero_add] at he hL hl
        obtain ⟨u1, u2, n', h1, h2, h3, h4⟩ := (seqG_recog y).fwd Q Lf a L hL hl n u h
        exact ⟨u1, u2, n', h1, h2, .inr h3, by rw [he]; exact h4⟩
      | cons z zs ih =>
        intro Q Lf e a L he hL hl n u h
        simp only [preCode, preLen, preSets, List.append_assoc] at he hL hl
        obtain ⟨l1, l2⟩ := lies_append hl
        rw [altBlock_length] at l2
        rw [show a + (z.length + 2 + preLen zs) = a + z.length + 2 + preLen zs from by omega] at l2
        obtain ⟨q1, l3⟩ := lies_tail l1
        obtain ⟨l4, l5⟩ := lies_append l3
        rw [seqCode_length] at l5
        have q2 : Q[a + 1 + z.length]? = some ⟨2, 0, e⟩ := by simpa using l5 0 _ rfl
        have hz : z.foldl addSet L <+: Lf := ((preSets_prefix zs _).trans (foldSets_prefix y _)).trans hL
        obtain ⟨m, rfl, h1 | h1⟩ := AccN.split q1 h
        · obtain ⟨u1, u2, n', k1, k2, k3, k4⟩ := ih Q Lf e (a + z.length + 2) (z.foldl addSet L) (by omega) hL (by rw [show a + z.length + 2 = a + (z.length + 2) from by omega] at *; exact l2) m u h1
          refine ⟨u1, u2, n', by omega, k2, ?_, k4⟩
          rcases k3 with ⟨z', hz', k3⟩ | k3
          · exact .inl ⟨z', List.mem_cons_of_mem _ hz', k3⟩
          · exact .inr k3
        · obtain ⟨u1, u2, n', k1, k2, k3, k4⟩ := (seqG_recog z).fwd Q Lf (a + 1) L hz l4 m u h1
          obtain ⟨n2, rfl, k5⟩ := AccN.jump q2 k4
          exact ⟨u1, u2, n2, by omega, k2, .inl ⟨z, List.mem_cons_self, k3⟩, k5⟩
    intro Q Lf a L hL hl n u h
    exact key zs Q Lf _ a L rfl hL hl n u h
  · have key : ∀ (zs : List (List S4)) (Q : List I) (Lf : List S4) (e a : Nat) (L : List S4), e = a + (preLen zs + y.length) → y.foldl addSet (preSets zs L) <+: Lf → Lies Q a (preCode e zs a L ++ seqCode y (a + preLen zs) (preSets zs L)) →
        ∀ u1 u2, altR zs y u1 → Acc Q (hasOf Lf) e u2 → Acc Q (hasOf Lf) a (u1 ++ u2) := by
      intro zs
      induction zs with
      | nil =>
        intro Q Lf e a L he hL hl u1 u2 hr h
        simp only [preCode, preLen, preSets, List.nil_append, Nat.add_zero, Nat.zero_add] at he hL hl
        rcases hr with ⟨z, hz, _⟩ | hr
        · cases hz
        · exact (seqG_recog y).bwd Q Lf a L hL hl u1 u2 hr (by rw [← he]; exact h)
      | cons z zs ih =>
        intro Q Lf e a L he hL hl u1 u2 hr h
        simp only [preCode, preLen, preSets, List.append_assoc] at he hL hl
        obtain ⟨l1, l2⟩ := lies_append hl
        rw [altBlock_length] at l2
        rw [show a + (z.length + 2 + preLen zs) = a + z.length + 2 + preLen zs from by omega] at l2
        obtain ⟨q1, l3⟩ := lies_tail l1
        obtain ⟨l4, l5⟩ := lies_append l3
        rw [seqCode_length] at l5
        have q2 : Q[a + 1 + z.length]? = some ⟨2, 0, e⟩ := by simpa using l5 0 _ rfl
        have hz : z.foldl addSet L <+: Lf := ((preSets_prefix zs _).trans (foldSets_prefix y _)).trans hL
        have hrest : altR zs y u1 → Acc Q (hasOf Lf) a (u1 ++ u2) := fun hr =>
          Acc.splitL q1 (ih Q Lf e (a + z.length + 2) (z.foldl addSet L) (by omega) hL (by rw [show a + z.length + 2 = a + (z.length + 2) from by omega] at *; exact l2) u1 u2 hr h)
        rcases hr with ⟨z', hz', hr⟩ | hr
        · rcases List.mem_cons.1 hz' with rfl | hz'
          · exact Acc.splitR q1 ((seqG_recog z').bwd Q Lf (a + 1) L hz l4 u1 u2 hr (Acc.jump' q2 h))
          · exact hrest (.inl ⟨z', hz', hr⟩)
        · exact hrest (.inr hr)
    intro Q Lf a L hL hl u1 u2 hr h
    exact key zs Q Lf _ a L rfl hL hl u1 u2 hr h
end Go.Proofs.Qxb6000456a
