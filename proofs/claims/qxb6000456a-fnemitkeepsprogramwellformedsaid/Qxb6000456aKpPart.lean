import Derived.Test.Qxb6000456aKp4b
namespace Go.Proofs.Qxb6000456a
open Go.RowKit
set_option linter.unusedVariables false
set_option linter.unusedSimpArgs false

def ysOf (ws : List ByteArray) : List (List S4) := ws.map fun s => s.data.toList.map single
def bytesOf : List ByteArray → Nat
  | [] => 0
  | s :: ws => s.size + bytesOf ws
theorem bytesOf_snoc (ws : List ByteArray) (s : ByteArray) : bytesOf (ws ++ [s]) = bytesOf ws + s.size := by
  induction ws with
  | nil => simp [bytesOf]
  | cons t ws ih => simp [bytesOf, ih]; omega
theorem lenSum_ys (ws : List ByteArray) : lenSum (ysOf ws) = bytesOf ws := by
  induction ws with
  | nil => rfl
  | cons s ws ih =>
    have : lenSum (ysOf (s :: ws)) = s.data.toList.length + lenSum (ysOf ws) := by simp [ysOf, lenSum]
    rw [this, ih]
    simp [bytesOf]
theorem mem_ys (ws : List ByteArray) (x : S4) : (∃ z ∈ ysOf ws, x ∈ z) ↔ ∃ c ∈ allBytes ws, x = single c := by
  unfold ysOf allBytes
  constructor
  · rintro ⟨z, hz, hx⟩
    obtain ⟨s, hs, rfl⟩ := List.mem_map.1 hz
    obtain ⟨c, hc, rfl⟩ := List.mem_map.1 hx
    exact ⟨c, List.mem_flatMap.2 ⟨s, hs, hc⟩, rfl⟩
  · rintro ⟨c, hc, rfl⟩
    obtain ⟨s, hs, hc⟩ := List.mem_flatMap.1 hc
    exact ⟨_, List.mem_map.2 ⟨s, hs, rfl⟩, List.mem_map.2 ⟨c, hc, rfl⟩⟩
theorem ysWf (ws : List ByteArray) : ∀ z ∈ ysOf ws, ∀ x ∈ z, x.Wf := by
  intro z hz
  obtain ⟨s, _, rfl⟩ := List.mem_map.1 hz
  exact litWf _

set_option maxHeartbeats 1000000 in
set_option maxRecDepth 100000 in
theorem emit_alt0 (p m n : Nat) (a : Option Addr) (cap : Nat) (w : World) (hn : NodeAt w n 2 a cap []) :
    Calls Try.prog 33 #[.pointer (some ⟨p, 0, none⟩), .pointer (some ⟨n, 0, none⟩), .map (some m)] w fun e w' => e = .returned (.tuple #[]) ∧ w = w' := by
  have n0 := hn.kindC
  have n5 := hn.subsC
  have n5' : w.cell? ⟨n, 5, none⟩ = some (.slice a 0 cap) := n5
  clear n5 hn
  go_enter Try.func33, Try.ntmps33
  go_wp2_with fail
  go_loop [10, 95] (fun v i => v = .slice none 0 0 ∧ i = .int .i64 0) (fun _ _ => 0)
  case atStart => exact ⟨rfl, rfl⟩
  case round =>
    obtain ⟨rfl, rfl⟩ := hrel
    go_wp2_with fail
    go_loop [161] (fun i => i = .int .i64 0) (fun _ => 0)
    case atStart => rfl
    case round =>
      obtain rfl := hrel
      go_wp2_with fail
      go_end0
      exact ⟨rfl, rfl⟩

theorem alt0Part (n : Nat) (a : Option Addr) (cap : Nat) (fp : Nat → Prop) : PartOK n (seqG []) 0 fp (fun w => AltAt w n a cap [] [] fp) := by
  refine ⟨seqG_sized [], fun hn hk hF => hn.kept hk hF, fun hn => hn.lt, ?_⟩
  intro p m ai ci asx cs s w hc hL h hn ha
  refine (emit_alt0 p m n a cap w hn.node).mono ?_
  rintro e w' ⟨rfl, rfl⟩
  refine ⟨rfl, ai, ci, asx, cs, ?_, EmTo.refl _ _ _ _ _⟩
  have e : (seqG []).step s = s := by simp [PG.step, seqG, seqCode]
  rw [e]
  exact h

theorem kpPart {w0 w : World} {n : Nat} {a : Option Addr} {cap : Nat} {bs : List Nat} {ws : List ByteArray} (h : AltMk w0 w n a cap bs (ysOf ws)) (hm : ws.length ≤ 65536) :
    ∃ (g : PG) (c : Nat) (fp : Nat → Prop) (Node : World → Prop), PartOK n g c fp Node ∧ Node w ∧ g.Good c ∧ Tidy g (bytesOf ws) (ws.length - 1) (fun x => ∃ c ∈ allBytes ws, x = single c) ∧ c = bytesOf ws + 2 * (ws.length - 1) ∧ ∀ k, fp k → k < w.heap.size := by
  rcases List.eq_nil_or_concat ws with rfl | ⟨zs, y, hws⟩
  · have hb : bs = [] := List.eq_nil_of_length_eq_zero (by rw [h.len]; rfl)
    subst hb
    refine ⟨seqG [], 0, _, _, alt0Part n a cap _, h.done, seqG_good [], ?_, rfl, fun k hk => hk.2⟩
    have t := seqG_tidy []
    refine ⟨t.c0, t.c1, t.c2, t.nx, fun L x => ?_⟩
    rw [t.mem]
    simp [allBytes]
  · have hws2 : ws = zs ++ [y] := by simpa using hws
    subst hws2
    have hy : ysOf (zs ++ [y]) = ysOf zs ++ [y.data.toList.map single] := by simp [ysOf]
    have hl : (ysOf zs).length = zs.length := by simp [ysOf]
    have hd := h.done
    have hwf := ysWf (zs ++ [y])
    rw [hy] at hd hwf
    have t := altG_tidy (ysOf zs) (y.data.toList.map single)
    refine ⟨altG (ysOf zs) (y.data.toList.map single), _, _, _, altPart n a cap bs (ysOf zs) _ _ hwf (by rw [hl]; simp at hm; omega), hd, altG_good _ _, ?_, ?_, fun k hk => hk.2⟩
    · have e1 : lenSum (ysOf zs ++ [y.data.toList.map single]) = bytesOf (zs ++ [y]) := by rw [← hy, lenSum_ys]
      have e2 : (zs ++ [y]).length - 1 = (ysOf zs).length := by rw [hl]; simp
      rw [e2, ← e1]
      refine ⟨t.c0, t.c1, t.c2, t.nx, fun L x => ?_⟩
      rw [t.mem, ← hy, mem_ys]
    · rw [preLen_eq, lenSum_ys, bytesOf_snoc, hl]
      simp
      omega
end Go.Proofs.Qxb6000456a
