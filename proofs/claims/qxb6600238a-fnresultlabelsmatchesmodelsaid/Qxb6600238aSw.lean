import Derived.Test.Qxb6600238aSrt2
import Derived.Shelf.SlSortCmp.KitK
import Derived.Sort.WalkB2
import Derived.Sort.WalkB12
import Derived.Deep.LoopGhost
set_option linter.unusedVariables false
set_option linter.unusedSimpArgs false
set_option linter.unusedSectionVars false
namespace Go.Proofs.Qxb6600238a
open Go.Shelf Go.RowKit Go.Lib Go.Sort
variable {P : Program} {α : Type} [Inhabited α]

/-- What the walks of the sort ask of the program. -/
def SP (P : Program) (k : Nat) : Prop :=
  P.follows .mixedOrders = true ∧ (∀ w, (isAgg 41).run P w = .ok true w) ∧ (∀ w, (Go.sizeOf 41).run P w = .ok k w) ∧
  P.underlying 0 = some (TypeDesc.tuple #[]) ∧ (∀ w, (isAgg 0).run P w = .ok false w) ∧ (∀ w, (Go.sizeOf 0).run P w = .ok 1 w) ∧
  P.underlying 3 = some (TypeDesc.int IntKind.i64) ∧ (∀ w, (isAgg 3).run P w = .ok false w) ∧ (∀ w, (Go.sizeOf 3).run P w = .ok 1 w) ∧
  P.underlying 4 = some TypeDesc.bool ∧ (∀ w, (isAgg 4).run P w = .ok false w) ∧ (∀ w, (Go.sizeOf 4).run P w = .ok 1 w) ∧
  P.underlying 36 = some (TypeDesc.slice 41) ∧ (∀ w, (isAgg 36).run P w = .ok false w) ∧ (∀ w, (Go.sizeOf 36).run P w = .ok 1 w) ∧
  P.underlying 64 = some (TypeDesc.func #[41, 41] #[3] false) ∧ (∀ w, (isAgg 64).run P w = .ok false w) ∧ (∀ w, (Go.sizeOf 64).run P w = .ok 1 w) ∧
  P.underlying 65 = some (TypeDesc.int IntKind.u64) ∧ (∀ w, (isAgg 65).run P w = .ok false w) ∧ (∀ w, (Go.sizeOf 65).run P w = .ok 1 w)

set_option maxHeartbeats 4000000 in
set_option maxRecDepth 1000000 in
theorem swapRange_any {k : Nat} (sp : SP P k) (F54 : P.funcs[54]? = some Try.f54) (enc : α → List Value) (fv : Value) (blk off cap a b n : Nat) (d0 d : Array α) (w0 w : World)
    (R : RowK enc k w0 blk off d0) (hs : d0.size = d.size) (S : SWK enc k w0 blk off d w) (hab : a + n ≤ b) (hb : b + n ≤ d.size) (hsz : d.size < 4611686018427387904) :
    Calls P 54 #[.slice (some ⟨blk, off, none⟩) d.size cap, .int .i64 a, .int .i64 b, .int .i64 n, fv] w fun e w' => e = .returned (.tuple #[]) ∧ SWK enc k w0 blk off (swpR d a b n) w' := by
  obtain ⟨mixed, a41, z41, t0, a0, z0, t3, a3, z3, t4, a4, z4, t36, a36, z36, t64, a64, z64, t65, a65, z65⟩ := sp
  have S0 : Aside (SWK enc k w0 blk off d w) := S
  clear S
  go_enter F54, Try.ntmps54
  go_wp2
  go_loopg [10] n (fun kx s10 wr => ∃ (i : Nat) (dk : Array α), s10 = .int .i64 i ∧ i ≤ n ∧ n - i ≤ kx ∧ dk.size = d.size ∧ Aside (SWK enc k w0 blk off dk wr) ∧ Hid (dk = swpR d a b i))
  case atStart => exact ⟨0, d, rfl, Nat.zero_le _, by omega, rfl, S0, rfl⟩
  case round =>
    clear S0
    obtain ⟨i, dk, rfl, hin, hkx, hds, S1, HE⟩ := hrel
    by_cases hlt : (i : Int) < (n : Int)
    · go_wp2_with fail
      have e1 : (a : Int) + (i : Int) = ((a + i : Nat) : Int) := by omega
      have e2 : (b : Int) + (i : Int) = ((b + i : Nat) : Int) := by omega
      have ra : IntKind.i64.wrap ((a : Int) + (i : Int)) = ((a + i : Nat) : Int) := by rw [IntKind.wrap_i64]; omega
      have rb : IntKind.i64.wrap ((b : Int) + (i : Int)) = ((b + i : Nat) : Int) := by rw [IntKind.wrap_i64]; omega
      have ba : ((a + i : Nat) : Int) < (d.size : Int) := by omega
      have bb : ((b + i : Nat) : Int) < (d.size : Int) := by omega
      have ea : (((a + i : Nat) : Int)).toNat = a + i := by omega
      have eb : (((b + i : Nat) : Int)).toNat = b + i := by omega
      have pa : (0 : Int) ≤ ((a + i : Nat) : Int) := by omega
      have pb : (0 : Int) ≤ ((b + i : Nat) : Int) := by omega
      have S2 : Aside (SWK enc k w0 blk off (swp dk (a + i) (b + i)) ((wr.drew.setCells blk (off + (a + i) * k) (enc dk[b + i]!)).setCells blk (off + (b + i) * k) (enc dk[a + i]!))) := S1.out.swapped R (a + i) (b + i) (by omega) (by omega)
      have la := S1.out.ld1 R (by omega) P (a + i) (by omega)
      have lb := S1.out.ld1 R (by omega) P (b + i) (by omega)
      have sa := S1.out.st1 R (by omega) P (a + i) (by omega) dk[b + i]!
      have sb := S1.out.st2 R (by omega) P (a + i) (b + i) (by omega) (by omega) dk[b + i]! dk[a + i]!
      have na : (enc dk[a + i]!).length = k := R.hk _
      have nb : (enc dk[b + i]!).length = k := R.hk _
      generalize enc dk[a + i]! = cI at S2 la sb na
      generalize enc dk[b + i]! = cJ at S2 lb sa sb nb
      clear S1
      clear e1 e2
      go_wp2_with fail
      go_big_region_o
      clear la lb sa sb
      generalize (wr.drew.setCells blk (off + (a + i) * k) cJ).setCells blk (off + (b + i) * k) cI = w2 at S2 ⊢
      go_wp2
      go_roundg (n - (i + 1))
      case measure => omega
      case rel => exact ⟨i + 1, swp dk (a + i) (b + i), by go_num, by omega, by omega, by rw [size_swp]; exact hds, S2, (by rw [Hid, HE.out]; rfl)⟩
    · have hni : i = n := by omega
      subst hni
      go_wp2
      go_end0
      exact ⟨rfl, by rw [← HE.out]; exact S1.out⟩

theorem rotF_succ (f : Nat) (d : Array α) (m i j : Nat) : rotF (f + 1) d m i j = if i = j then swpR d (m - i) m i else if j < i then rotF f (swpR d (m - i) m j) m (i - j) j else rotF f (swpR d (m - i) (m + j - i) i) m i (j - i) := rfl

set_option maxHeartbeats 4000000 in
set_option maxRecDepth 1000000 in
theorem rotate_any {k : Nat} (sp : SP P k) (F54 : P.funcs[54]? = some Try.f54) (F53 : P.funcs[53]? = some Try.f53) (enc : α → List Value) (fv : Value) (blk off cap a m b : Nat) (d0 d : Array α) (w0 w : World)
    (R : RowK enc k w0 blk off d0) (hs : d0.size = d.size) (S : SWK enc k w0 blk off d w) (ham : a < m) (hmb : m < b) (hb : b ≤ d.size) (hsz : d.size < 4611686018427387904) :
    Calls P 53 #[.slice (some ⟨blk, off, none⟩) d.size cap, .int .i64 a, .int .i64 m, .int .i64 b, fv] w fun e w' => e = .returned (.tuple #[]) ∧ ∃ d', Rot a m b d d' ∧ SWK enc k w0 blk off d' w' := by
  have e54 : ∀ args w, (callFunc 54 args).run P w = .ok (.enter 54 args) w := enters_of F54 (by kernel_rfl) rfl
  have HSP : Aside (SP P k) := sp
  obtain ⟨mixed, a41, z41, t0, a0, z0, t3, a3, z3, t4, a4, z4, t36, a36, z36, t64, a64, z64, t65, a65, z65⟩ := sp
  have S0 : Aside (SWK enc k w0 blk off d w) := S
  clear S
  have HR : Hid (Rot a m b d (rotF (b - a) d m (m - a) (b - m))) := by
    have := rotF_rot (b - a) d m (m - a) (b - m) (by omega) (by omega) (by omega) (by omega) (by omega)
    rwa [show m - (m - a) = a by omega, show m + (b - m) = b by omega] at this
  go_enter F53, Try.ntmps53
  go_wp2
  go_loopg [10, 11] (b - a) (fun kx s10 s11 wr => ∃ (i j f : Nat) (dk : Array α), s10 = .int .i64 i ∧ s11 = .int .i64 j ∧ 0 < i ∧ 0 < j ∧ i ≤ m - a ∧ j ≤ b - m ∧ i + j ≤ kx ∧ i + j ≤ f + 1 ∧ dk.size = d.size ∧ Aside (SWK enc k w0 blk off dk wr) ∧ Hid (rotF (f + 1) dk m i j = rotF (b - a) d m (m - a) (b - m)))
  case atStart => exact ⟨m - a, b - m, b - a - 1, d, by go_num, by go_num, by omega, by omega, by omega, by omega, by omega, by omega, rfl, S0, (by rw [Hid, show b - a - 1 + 1 = b - a by omega])⟩
  case round =>
    clear S0
    obtain ⟨i, j, f, dk, rfl, rfl, hi0, hj0, him, hjb, hkx, hf, hds, S1, HE⟩ := hrel
    by_cases hij : i = j
    · subst hij
      have hb0 : ((i : Int) != (i : Int)) = false := by simp
      have HF : Hid (swpR dk (m - i) m i = rotF (b - a) d m (m - a) (b - m)) := by
        have := HE.out
        rw [rotF_succ] at this
        rw [if_pos rfl] at this
        exact this
      have c := swapRange_any HSP.out F54 enc fv blk off cap (m - i) m i d0 dk w0 wr R (by omega) S1.out (by omega) (by omega) (by omega)
      rw [hds, show ((m - i : Nat) : Int) = (m : Int) - (i : Int) by omega] at c
      clear HE S1
      go_wp2_with fail
      refine c.mono ?_
      rintro e w2 ⟨rfl, hS2⟩
      have S2 : Aside _ := hS2
      clear hS2 c
      go_wp2_with fail
      go_end0
      exact ⟨rfl, _, HR.out, by rw [← HF.out]; exact S2.out⟩
    · have hb0 : ((i : Int) != (j : Int)) = true := by simp; omega
      by_cases hji : j < i
      · have hgt : (j : Int) < (i : Int) := by omega
        obtain ⟨f', rfl⟩ : ∃ f', f = f' + 1 := ⟨f - 1, by omega⟩
        have HF : Hid (rotF (f' + 1) (swpR dk (m - i) m j) m (i - j) j = rotF (b - a) d m (m - a) (b - m)) := by
          have := HE.out
          rw [rotF_succ] at this
          rw [if_neg hij, if_pos hji] at this
          exact this
        have c := swapRange_any HSP.out F54 enc fv blk off cap (m - i) m j d0 dk w0 wr R (by omega) S1.out (by omega) (by omega) (by omega)
        rw [hds, show ((m - i : Nat) : Int) = (m : Int) - (i : Int) by omega] at c
        clear HE S1
        go_wp2_with fail
        refine c.mono ?_
        rintro e w2 ⟨rfl, hS2⟩
        have S2 : Aside _ := hS2
        clear hS2 c
        go_wp2_with fail
        go_roundg (i - j + j)
        case measure => omega
        case rel => exact ⟨i - j, j, f', swpR dk (m - i) m j, by go_num, rfl, by omega, hj0, by omega, hjb, by omega, by omega, by rw [swpR_size]; exact hds, S2, HF⟩
      · have hgt : ¬ (j : Int) < (i : Int) := by omega
        obtain ⟨f', rfl⟩ : ∃ f', f = f' + 1 := ⟨f - 1, by omega⟩
        have HF : Hid (rotF (f' + 1) (swpR dk (m - i) (m + j - i) i) m i (j - i) = rotF (b - a) d m (m - a) (b - m)) := by
          have := HE.out
          rw [rotF_succ] at this
          rw [if_neg hij, if_neg hji] at this
          exact this
        have c := swapRange_any HSP.out F54 enc fv blk off cap (m - i) (m + j - i) i d0 dk w0 wr R (by omega) S1.out (by omega) (by omega) (by omega)
        rw [hds, show ((m - i : Nat) : Int) = (m : Int) - (i : Int) by omega, show ((m + j - i : Nat) : Int) = (m : Int) + (j : Int) - (i : Int) by omega] at c
        clear HE S1
        go_wp2_with fail
        refine c.mono ?_
        rintro e w2 ⟨rfl, hS2⟩
        have S2 : Aside _ := hS2
        clear hS2 c
        go_wp2_with fail
        go_roundg (i + (j - i))
        case measure => omega
        case rel => exact ⟨i, j - i, f', swpR dk (m - i) (m + j - i) i, rfl, by go_num, hi0, by omega, him, by omega, by omega, by omega, by rw [swpR_size]; exact hds, S2, HF⟩
end Go.Proofs.Qxb6600238a
