import Derived.Test.Qxb6000456aNode
namespace Go.Proofs.Qxb6000456a
open Go.RowKit
set_option linter.unusedVariables false
set_option linter.unusedSimpArgs false

theorem EmSt.keptW {p m : Nat} {w0 : World} {ai0 as0 : Option Addr} {w : World} {s : St} (h : EmSt p m w0 ai0 as0 w s) : Kept (emF p m ai0 as0) w0 w := by
  obtain ⟨ai, ci, asx, cs, E, T⟩ := h
  exact T.kept

theorem seqTo_length (s : St) (xs : List S4) : (seqTo s xs).P.length = s.P.length + xs.length := by
  rw [seqTo_eq]; exact PG.step_length (seqG_sized xs) s
theorem seqTo_sets (s : St) (xs : List S4) (h : s.L.length ≤ s.P.length) : (seqTo s xs).L.length ≤ (seqTo s xs).P.length := by
  rw [seqTo_length, seqTo_eq]
  have := foldSets_length xs s.L
  simp only [PG.step, seqG]
  omega

/-- The part's cell. -/
theorem NodeAt.partC {w : World} {n kind g : Nat} {cap : Nat} {bs : List Nat} (h : NodeAt w n kind (some ⟨g, 0, none⟩) cap bs) {k b : Nat} (hb : bs[k]? = some b) : w.cell? ⟨g, k, none⟩ = some (.pointer (some ⟨b, 0, none⟩)) := by
  have hl : k < bs.length := (List.getElem?_eq_some_iff.1 hb).1
  rw [h.row.cellAt k (by omega), List.getElem?_map, hb]; rfl

set_option maxHeartbeats 1000000 in
set_option maxRecDepth 100000 in
theorem emit_seq (p m n : Nat) (a : Option Addr) (cap : Nat) (bs : List Nat) (xs : List S4) (hx : ∀ x ∈ xs, x.Wf) (ai : Option Addr) (ci : Nat) (asx : Option Addr) (cs : Nat) (s : St) (w : World) (hc : s.P.length + xs.length ≤ 4194304) (hL : s.L.length ≤ s.P.length)
    (h : EmAt w p m ai ci asx cs s.P s.L) (hn : SeqAt w n a cap bs xs) (ha : ∀ k, seqF n a bs k → ¬ emF p m ai asx k) :
    Calls Try.prog 33 #[.pointer (some ⟨p, 0, none⟩), .pointer (some ⟨n, 0, none⟩), .map (some m)] w fun e w' => e = .returned (.tuple #[]) ∧ EmSt p m w ai asx w' ((seqG xs).step s) := by
  have H0 : Hid (EmSt p m w ai asx w (seqTo s (xs.take 0))) := ⟨ai, ci, asx, cs, by simpa [seqTo] using h, EmTo.refl _ _ _ _ _⟩
  have HN : Hid (SeqAt w n a cap bs xs) := hn
  have HA : Hid (∀ k, seqF n a bs k → ¬ emF p m ai asx k) := ha
  have n0 := hn.node.kindC
  have n5 := hn.node.subsC
  have hbx : bs.length = xs.length := hn.len
  clear h hn ha
  go_enter Try.func33, Try.ntmps33
  go_wp2_with fail
  go_loopw [79] (fun i wr => ∃ k : Nat, k ≤ xs.length ∧ i = .int .i64 k ∧ Hid (EmSt p m w ai asx wr (seqTo s (xs.take k)))) (fun i _ => xs.length - (intOf i).toNat)
  case atStart => exact ⟨0, Nat.zero_le _, rfl, H0⟩
  case round =>
    obtain ⟨k, hk, rfl, Hst⟩ := hrel
    clear n0 n5 H0
    by_cases hlt : k < xs.length
    · obtain ⟨g, rfl⟩ := HN.out.node.form (by omega)
      obtain ⟨b, hb⟩ : ∃ b, bs[k]? = some b := ⟨_, List.getElem?_eq_getElem (by omega)⟩
      obtain ⟨x, hxk⟩ : ∃ x, xs[k]? = some x := ⟨_, List.getElem?_eq_getElem hlt⟩
      have hnode : SeqAt wr n (some ⟨g, 0, none⟩) cap bs xs := HN.out.kept Hst.out.keptW HA.out
      have cb := hnode.node.partC hb
      have hblt : k < bs.length := by omega
      have hlen := seqTo_length s (xs.take k)
      have hsets := seqTo_sets s (xs.take k) hL
      have htk : (xs.take k).length = k := by simp; omega
      have HB : Hid (PartOK b (byteG x) 1 (fun k => k = b) (fun w => ByteNode w b x)) := bytePart b x (hx x (List.mem_of_getElem? hxk))
      have HX : Hid (seqTo s (xs.take (k + 1)) = (byteG x).step (seqTo s (xs.take k))) := by
        rw [Hid, ← seqTo_snoc, List.take_add_one, hxk]; rfl
      have hb1 : (seqTo s (xs.take k)).P.length + 1 ≤ 4194304 := by omega
      have HBN : Hid (ByteNode w b x) := HN.out.parts k b x hb hxk
      have HBA : Hid (∀ j, j = b → ¬ emF p m ai asx j) := by rintro j rfl; exact HA.out j (.inr (.inr (List.mem_of_getElem? hb)))
      clear hnode hb hxk htk hlen
      go_wp2_with fail
      refine (EmSt.call HB.out HBN.out HBA.out Hst.out hb1 hsets).mono ?_
      rintro e w1 ⟨rfl, Hst1⟩
      have Hst2 : Hid (EmSt p m w ai asx w1 (seqTo s (xs.take (k + 1)))) := by rw [Hid, HX.out]; exact Hst1
      clear Hst1
      go_wp2_with fail
      go_roundw
      case rel => exact ⟨k + 1, by omega, by go_num, Hst2⟩
      case measure => simp [intOf]; omega
    · have hke : k = xs.length := by omega
      subst hke
      go_wp2_with fail
      go_end0
      refine ⟨rfl, ?_⟩
      have := Hst.out
      rw [List.take_length, seqTo_eq] at this
      exact this

theorem seqPart (n : Nat) (a : Option Addr) (cap : Nat) (bs : List Nat) (xs : List S4) (hx : ∀ x ∈ xs, x.Wf) : PartOK n (seqG xs) xs.length (seqF n a bs) (fun w => SeqAt w n a cap bs xs) := by
  refine ⟨seqG_sized xs, fun hn hk hF => hn.kept hk hF, fun hn => hn.lt, ?_⟩
  intro p m ai ci asx cs s w hc hL h hn ha
  refine (emit_seq p m n a cap bs xs hx ai ci asx cs s w hc hL h hn ha).mono ?_
  rintro e w' ⟨rfl, ai', ci', asx', cs', E, T⟩
  exact ⟨rfl, ai', ci', asx', cs', E, T⟩
end Go.Proofs.Qxb6000456a
