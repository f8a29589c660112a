import Derived.Test.Qxb6000456aLang2
import Derived.Test.Qxb6000456aEmByte
import Derived.Test.Qxb6000456aRep
namespace Go.Proofs.Qxb6000456a
open Go.RowKit
set_option linter.unusedVariables false
set_option linter.unusedSimpArgs false

/-- An instruction whose targets lie within b, whose byte set is one of M. -/
def Inside (b M : Nat) (i : I) : Prop := (i.op = 0 ∧ i.arg < M ∧ i.next ≤ b) ∨ (i.op = 1 ∧ i.arg ≤ b ∧ i.next ≤ b) ∨ (i.op = 2 ∧ i.arg ≤ b ∧ i.next ≤ b)
theorem Inside.mono {b M b' M' : Nat} {i : I} (h : Inside b M i) (hb : b ≤ b') (hM : M ≤ M') : Inside b' M' i := by
  rcases h with ⟨h1, h2, h3⟩ | ⟨h1, h2, h3⟩ | ⟨h1, h2, h3⟩
  · exact .inl ⟨h1, by omega, by omega⟩
  · exact .inr (.inl ⟨h1, by omega, by omega⟩)
  · exact .inr (.inr ⟨h1, by omega, by omega⟩)

def St.Ok (s : St) : Prop := ∀ i ∈ s.P, Inside s.P.length s.L.length i
/-- A part all of whose code is so. -/
structure PG.Good (g : PG) (c : Nat) : Prop where
  sized : g.Sized c
  grow : ∀ L, L <+: g.sets L
  inside : ∀ n L, ∀ i ∈ g.code n L, Inside (n + c) (g.sets L).length i

theorem St.Ok.push {s : St} (h : s.Ok) {i : I} (hi : Inside (s.P.length + 1) s.L.length i) : (s.push i).Ok := by
  intro j hj
  simp only [St.push] at hj ⊢
  rcases List.mem_append.1 hj with hj | hj
  · exact (h j hj).mono (by simp) (Nat.le_refl _)
  · simp at hj; subst hj; simpa using hi
theorem St.Ok.step {s : St} {g : PG} {c : Nat} (h : s.Ok) (hg : g.Good c) : (g.step s).Ok := by
  intro j hj
  have hl := PG.step_length hg.sized s
  have hL := (hg.grow s.L).length_le
  rw [hl]
  simp only [PG.step] at hj ⊢
  rcases List.mem_append.1 hj with hj | hj
  · exact (h j hj).mono (by omega) hL
  · exact hg.inside _ _ j hj
theorem St.Ok.rep {s : St} {g : PG} {c : Nat} (h : s.Ok) (hg : g.Good c) (k : Nat) : (g.rep s k).Ok := by
  induction k with
  | zero => exact h
  | succ k ih => exact ih.step hg
theorem St.Ok.opt {s : St} {g : PG} {c : Nat} (h : s.Ok) (hg : g.Good c) (k : Nat) : (g.opt s k).1.Ok := by
  induction k with
  | zero => exact h
  | succ k ih => exact (ih.push (.inr (.inl ⟨rfl, Nat.zero_le _, Nat.le_refl _⟩))).step hg

theorem optEnd_ok {s : St} {g : PG} {c : Nat} (h : s.Ok) (hg : g.Good c) (K : Nat) : (g.optEnd s K).Ok := by
  intro i hi
  have ho := h.opt hg K
  have hl : (g.optEnd s K).P.length = (g.opt s K).1.P.length := patchArgs_length _ _ _
  rw [hl]
  obtain ⟨x, hx⟩ := List.getElem?_of_mem hi
  simp only [PG.optEnd] at hx
  rw [patchArgs_get] at hx
  split at hx
  · rename_i hm
    obtain ⟨j, hj, rfl⟩ := opt_mem s K x hm
    have h1 : (g.opt s (j + 1)).1.P[(g.opt s j).1.P.length]? = some ⟨1, 0, (g.opt s j).1.P.length + 1⟩ := by
      simp only [PG.opt, PG.step, St.push]
      rw [List.getElem?_append_left (by simp)]
      simp
    rw [getElem?_of_prefix (opt_prefix s K (j + 1) (by omega)) h1] at hx
    simp at hx
    subst hx
    have := opt_lt hg.sized s hj
    exact .inr (.inl ⟨rfl, Nat.le_refl _, by simp; omega⟩)
  · exact ho i (List.mem_of_getElem? hx)

theorem loopEnd_ok {s : St} {g : PG} {c : Nat} (h : s.Ok) (hg : g.Good c) : (g.loopEnd s).Ok := by
  intro i hi
  have h2 : (g.step (s.push ⟨1, 0, s.P.length + 1⟩)).Ok := (h.push (.inr (.inl ⟨rfl, Nat.zero_le _, Nat.le_refl _⟩))).step hg
  have l2 : (g.step (s.push ⟨1, 0, s.P.length + 1⟩)).P.length = s.P.length + 1 + c := by rw [PG.step_length hg.sized]; simp [St.push]
  have h3 : ((g.step (s.push ⟨1, 0, s.P.length + 1⟩)).push ⟨2, 0, s.P.length⟩).Ok := h2.push (.inr (.inr ⟨rfl, Nat.zero_le _, by rw [l2]; simp; omega⟩))
  have hl : (g.loopEnd s).P.length = s.P.length + 1 + c + 1 := by
    simp only [PG.loopEnd]
    rw [setArg_length]
    simp only [St.push, List.length_append, List.length_cons, List.length_nil]
    rw [PG.step_length hg.sized]
    simp [St.push]
  have l3 : ((g.step (s.push ⟨1, 0, s.P.length + 1⟩)).push ⟨2, 0, s.P.length⟩).P.length = s.P.length + 1 + c + 1 := by simp [St.push] at l2 ⊢; omega
  rw [hl]
  obtain ⟨x, hx⟩ := List.getElem?_of_mem hi
  simp only [PG.loopEnd] at hx
  rw [setArg_get] at hx
  split at hx
  · rename_i hm
    subst hm
    have e : ((g.step (s.push ⟨1, 0, s.P.length + 1⟩)).push ⟨2, 0, s.P.length⟩).P[s.P.length]? = some ⟨1, 0, s.P.length + 1⟩ := by
      simp only [PG.step, St.push, List.append_assoc]
      rw [List.getElem?_append_right (by omega)]
      simp
    rw [e] at hx
    simp only [Option.map_some, Option.some.injEq] at hx
    subst hx
    refine .inr (.inl ⟨rfl, ?_, by simp; omega⟩)
    show ((g.step (s.push ⟨1, 0, s.P.length + 1⟩)).push ⟨2, 0, s.P.length⟩).P.length ≤ _
    omega
  · have := h3 i (List.mem_of_getElem? hx)
    rw [l3] at this
    exact this

theorem repeat_ok {s : St} {g : PG} {c : Nat} (h : s.Ok) (hg : g.Good c) (least : Nat) (most : Int) : (g.repeat s least most).Ok := by
  unfold PG.repeat
  split
  · exact loopEnd_ok (h.rep hg least) hg
  · exact optEnd_ok (h.rep hg least) hg _

/-- The program closed by its match. -/
theorem wf_close {s : St} (h : s.Ok) (hb : s.P.length + 1 ≤ 4194304) (hM : s.L.length ≤ 4194304) : Wf (s.P ++ [⟨3, 0, 0⟩]) s.L.length := by
  have hi : ∀ i ∈ s.P ++ [(⟨3, 0, 0⟩ : I)], Inside s.P.length s.L.length i ∨ i = ⟨3, 0, 0⟩ := by
    intro i hi
    rcases List.mem_append.1 hi with hi | hi
    · exact .inl (h i hi)
    · simp at hi; exact .inr hi
  refine ⟨by simpa using hb, ?_, ?_, ?_, ?_, ?_, ?_⟩
  · intro i hm
    rcases hi i hm with (⟨h1, _⟩ | ⟨h1, _⟩ | ⟨h1, _⟩) | rfl <;> first | omega | simp
  · intro i hm ho
    rcases hi i hm with (⟨h1, h2, h3⟩ | ⟨h1, h2, h3⟩ | ⟨h1, h2, h3⟩) | rfl
    · omega
    · simp; omega
    · omega
    · cases ho
  · intro i hm ho
    rcases hi i hm with (⟨h1, h2, h3⟩ | ⟨h1, h2, h3⟩ | ⟨h1, h2, h3⟩) | rfl
    · omega
    · omega
    · simp; omega
    · cases ho
  · intro i hm ho
    rcases hi i hm with (⟨h1, h2, h3⟩ | ⟨h1, h2, h3⟩ | ⟨h1, h2, h3⟩) | rfl
    · simp; omega
    · omega
    · omega
    · cases ho
  · intro i hm
    rcases hi i hm with (⟨h1, h2, h3⟩ | ⟨h1, h2, h3⟩ | ⟨h1, h2, h3⟩) | rfl <;> first | omega | simp
  · intro i hm
    rcases hi i hm with (⟨h1, h2, h3⟩ | ⟨h1, h2, h3⟩ | ⟨h1, h2, h3⟩) | rfl <;> first | omega | simp

theorem repeat_length {g : PG} {c : Nat} (hg : g.Sized c) (s : St) (least : Nat) (most : Int) : (g.repeat s least most).P.length = s.P.length + least * c + (if most = -1 then c + 2 else (most - least).toNat * (c + 1)) := by
  unfold PG.repeat
  split
  · simp only [PG.loopEnd]
    rw [setArg_length]
    simp only [St.push, List.length_append, List.length_cons, List.length_nil]
    rw [PG.step_length hg]
    simp only [List.length_append, List.length_cons, List.length_nil]
    rw [PG.rep_length hg]; omega
  · simp only [PG.optEnd]
    rw [patchArgs_length, PG.opt_length hg, PG.rep_length hg]
theorem repeat_sets {g : PG} {c : Nat} (hg : g.Sized c) (s : St) (hs : s.L.length ≤ s.P.length) (least : Nat) (most : Int) : (g.repeat s least most).L.length ≤ (g.repeat s least most).P.length := by
  rw [repeat_length hg]
  unfold PG.repeat
  split
  · have h1 := PG.rep_sets hg s least hs
    have h2 := PG.rep_length hg s least
    have h3 := PG.step_sets hg ((g.rep s least).push ⟨1, 0, (g.rep s least).P.length + 1⟩)
    simp only [PG.loopEnd, St.push] at h3 ⊢
    omega
  · have h1 := PG.opt_sets hg (g.rep s least) (most - least).toNat (PG.rep_sets hg s least hs)
    rw [PG.opt_length hg, PG.rep_length hg] at h1
    simpa [PG.optEnd] using h1

theorem repeat_acc {g : PG} {c : Nat} {R : List UInt8 → Prop} (rg : Recog g c R) (least : Nat) (most : Int) (hm : most = -1 ∨ (least : Int) ≤ most) (u : List UInt8) :
    Acc ((g.repeat ⟨[], []⟩ least most).P ++ [⟨3, 0, 0⟩]) (hasOf (g.repeat ⟨[], []⟩ least most).L) 0 u ↔ ∃ r : Nat, least ≤ r ∧ (most = -1 ∨ (r : Int) ≤ most) ∧ Pow R r u := by
  unfold PG.repeat
  split
  · rename_i h
    rw [loopEnd_acc rg least u]
    simp [h]
  · rename_i h
    rw [optEnd_acc rg least _ u]
    constructor
    · rintro ⟨r, h1, h2, h3⟩; exact ⟨r, h1, .inr (by omega), h3⟩
    · rintro ⟨r, h1, h2, h3⟩; exact ⟨r, h1, by omega, h3⟩

/-! ### one byte set -/
def byteG (x : S4) : PG := ⟨fun n L => [⟨0, setIdx L x, n + 1⟩], fun L => addSet L x⟩

theorem addSet_prefix (L : List S4) (x : S4) : L <+: addSet L x := by
  unfold addSet
  split
  · exact List.prefix_refl _
  · exact List.prefix_append _ _
theorem addSet_length (L : List S4) (x : S4) : (addSet L x).length ≤ L.length + 1 := by
  unfold addSet
  split <;> simp
theorem byteG_sized (x : S4) : (byteG x).Sized 1 := ⟨fun _ _ => rfl, fun L => addSet_length L x⟩
theorem byteG_good (x : S4) : (byteG x).Good 1 := by
  refine ⟨byteG_sized x, fun L => addSet_prefix L x, ?_⟩
  intro n L i hi
  simp [byteG] at hi
  subst hi
  have := addSet_get L x
  have hl := (List.getElem?_eq_some_iff.1 this).1
  exact .inl ⟨rfl, hl, Nat.le_refl _⟩

theorem hasOf_prefix {L Lf : List S4} (h : L <+: Lf) {k : Nat} {x : S4} (hk : L[k]? = some x) (c : UInt8) : hasOf Lf k c = x.has c := by
  obtain ⟨t, rfl⟩ := h
  unfold hasOf
  rw [List.getElem?_append_left (List.getElem?_eq_some_iff.1 hk).1, hk]

theorem byteG_recog (x : S4) : Recog (byteG x) 1 (fun u => ∃ c, u = [c] ∧ x.has c = true) := by
  refine ⟨byteG_sized x, fun L => addSet_prefix L x, ?_, ?_⟩
  · intro Q Lf a L hL hl n u h
    have q : Q[a]? = some ⟨0, setIdx L x, a + 1⟩ := hl 0 _ rfl
    obtain ⟨m, c, u', hm, rfl, hc, h2⟩ := AccN.byte q h
    rw [hasOf_prefix hL (addSet_get L x)] at hc
    exact ⟨[c], u', m, by omega, rfl, ⟨c, rfl, hc⟩, h2⟩
  · rintro Q Lf a L hL hl u1 u2 ⟨c, rfl, hc⟩ h
    have q : Q[a]? = some ⟨0, setIdx L x, a + 1⟩ := hl 0 _ rfl
    exact Acc.byte' q (by rw [hasOf_prefix hL (addSet_get L x)]; exact hc) h

theorem pow_byte (x : S4) (r : Nat) (u : List UInt8) : Pow (fun u => ∃ c, u = [c] ∧ x.has c = true) r u ↔ u.length = r ∧ ∀ c ∈ u, x.has c = true := by
  induction r generalizing u with
  | zero =>
    constructor
    · intro h; cases h; simp
    · rintro ⟨h, _⟩; exact List.eq_nil_of_length_eq_zero h
  | succ r ih =>
    constructor
    · rintro ⟨u1, u2, rfl, ⟨c, rfl, hc⟩, h2⟩
      obtain ⟨h3, h4⟩ := (ih u2).1 h2
      refine ⟨by simp [h3], ?_⟩
      intro d hd
      simp at hd
      rcases hd with rfl | hd
      · exact hc
      · exact h4 d hd
    · rintro ⟨h1, h2⟩
      cases u with
      | nil => cases h1
      | cons c u =>
        exact ⟨[c], u, rfl, ⟨c, rfl, h2 c (by simp)⟩, (ih u).2 ⟨by simpa using h1, fun d hd => h2 d (by simp [hd])⟩⟩

theorem bytePart (b : Nat) (x : S4) (hx : x.Wf) : PartOK b (byteG x) 1 (fun k => k = b) (fun w => ByteNode w b x) := by
  refine ⟨byteG_sized x, fun hn hk hF => hk.heap hn (hF b rfl), fun hn k hk => by subst hk; exact lt_of_block hn, ?_⟩
  intro p m ai ci asx cs s w hc hL h hn ha
  exact emit_byte p m b ai ci asx cs s.P s.L x hx w (by omega) (by omega) h hn (ha b rfl)
end Go.Proofs.Qxb6000456a
