import Derived.Test.Qxb6600238aSmLo
import Derived.Test.Qxb6600238aSmHi
import Derived.Test.Qxb6600238aSt0
set_option linter.unusedVariables false
set_option linter.unusedSimpArgs false
set_option linter.unusedSectionVars false
namespace Go.Proofs.Qxb6600238a
open Go.Shelf Go.RowKit Go.Lib Go.Sort
variable {α κ : Type} [Inhabited α] [DecidableEq κ]

def insRen : Go.Shelf.Ren := ⟨fun | 20 => 51 | n => n, fun | 22 => 36 | 24 => 41 | 25 => 64 | n => n, fun | n => n⟩
theorem insLays : SlLaysF0.n20 Try.prog insRen := {
  mixed := by kernel_rfl
  f20 := ⟨Try.f51.name, by kernel_rfl, Try.func51.trans (congrArg some (by kernel_rfl))⟩
  t0 := Try.underlying0
  a0 := Try.isAgg0
  z0 := Try.sizeOf0
  v0 := Try.zeroValue0
  t3 := Try.underlying3
  a3 := Try.isAgg3
  z3 := Try.sizeOf3
  v3 := Try.zeroValue3
  t4 := Try.underlying4
  a4 := Try.isAgg4
  z4 := Try.sizeOf4
  v4 := Try.zeroValue4
  t22 := Try.underlying36
  a22 := Try.isAgg36
  z22 := Try.sizeOf36
  v22 := Try.zeroValue36
  t25 := Try.underlying64
  a25 := Try.isAgg64
  z25 := Try.sizeOf64
  v25 := Try.zeroValue64 }
theorem trySP : SP Try.prog 2 := ⟨by kernel_rfl, Try.isAgg41, Try.sizeOf41, Try.underlying0, Try.isAgg0, Try.sizeOf0, Try.underlying3, Try.isAgg3, Try.sizeOf3, Try.underlying4, Try.isAgg4, Try.sizeOf4, Try.underlying36, Try.isAgg36, Try.sizeOf36, Try.underlying64, Try.isAgg64, Try.sizeOf64, Try.underlying65, Try.isAgg65, Try.sizeOf65⟩

/-- The contract of a merge, at whatever base. -/
theorem sm_any (enc : α → List Value) (cf : α → α → Int) (key : α → κ) (hS : SWO (ltOf cf)) (hkey : ∀ x y, ltOf cf x y = true → key x ≠ key y)
    (g : Nat) (cb : Array Value) (eg : ∀ args w, (callFunc g args).run Try.prog w = .ok (.enter g args) w) (blk off cap : Nat) (d0 : Array α) (w0 : World)
    (R : RowK enc 2 w0 blk off d0) (hcmp : CmpLays Try.prog g cb enc 2 cf blk off d0.size w0) (hsz : d0.size < 4611686018427387904) :
    ∀ (N a m b : Nat) (d : Array α) (w : World), b - a ≤ N → d0.size = d.size → SWK enc 2 w0 blk off d w → a < m → m < b → b ≤ d.size → SortedIn (ltOf cf) a m d → SortedIn (ltOf cf) m b d →
      Calls Try.prog 52 #[.slice (some ⟨blk, off, none⟩) d.size cap, .int .i64 a, .int .i64 m, .int .i64 b, .func (.func g) #[] cb] w fun e w' => e = .returned (.tuple #[]) ∧ ∃ d', Good (ltOf cf) key a b d d' ∧ SWK enc 2 w0 blk off d' w' := by
  intro N
  induction N with
  | zero => intro a m b d w h; omega
  | succ N ih =>
    intro a m b d w hN hs S ham hmb hb hA hB
    by_cases h1 : m = a + 1
    · exact sm_left trySP Try.func52 enc cf key hS hkey g cb eg blk off cap a m b d0 d w0 w R hcmp hs S h1 hmb hb (by omega) hB
    · by_cases h2 : b = m + 1
      · exact sm_right trySP Try.func52 enc cf key hS hkey g cb eg blk off cap a m b d0 d w0 w R hcmp hs S (by omega) h2 hb (by omega) hA
      · by_cases h3 : (a + b) / 2 < m
        · exact sm_gen_hi trySP Try.func54 Try.func53 Try.func52 enc cf key hS hkey g cb eg blk off cap a m b d0 d w0 w R hcmp hs S (by omega) (by omega) hb (by omega) h3 hA hB (fun a' m' b' d' w' h => ih a' m' b' d' w' (by omega))
        · exact sm_gen_lo trySP Try.func54 Try.func53 Try.func52 enc cf key hS hkey g cb eg blk off cap a m b d0 d w0 w R hcmp hs S (by omega) (by omega) hb (by omega) (by omega) hA hB (fun a' m' b' d' w' h => ih a' m' b' d' w' (by omega))

theorem ins_any (enc : α → List Value) (cf : α → α → Int) (key : α → κ) (hS : SWO (ltOf cf)) (hkey : ∀ x y, ltOf cf x y = true → key x ≠ key y)
    (g : Nat) (cb : Array Value) (eg : ∀ args w, (callFunc g args).run Try.prog w = .ok (.enter g args) w) (blk off cap a b : Nat) (d0 d : Array α) (w0 w : World)
    (R : RowK enc 2 w0 blk off d0) (hcmp : CmpLays Try.prog g cb enc 2 cf blk off d0.size w0) (hsz : d0.size < 4611686018427387904) (hs : d0.size = d.size) (S : SWK enc 2 w0 blk off d w) (hab : a ≤ b) (hb : b ≤ d.size) :
    Calls Try.prog 51 #[.slice (some ⟨blk, off, none⟩) d.size cap, .int .i64 a, .int .i64 b, .func (.func g) #[] cb] w fun e w' => e = .returned (.tuple #[]) ∧ ∃ d', Good (ltOf cf) key a b d d' ∧ SWK enc 2 w0 blk off d' w' := by
  have hc : CmpLays Try.prog g cb enc 2 cf blk off d.size w := by
    intro m os dk hdk x y
    obtain ⟨n1, os1, e1⟩ := S.on R.hblk m dk os hdk
    have := hcmp n1 os1 dk (by omega) x y
    rw [← e1] at this
    exact this
  have c := AnyQ.insertionSortCmpFunc insLays 2 Try.isAgg41 Try.sizeOf41 enc R.hk R.h1 cf g cb blk off cap a b d w eg hc (S.holds R.hblk R.hH (by omega)) (S.lt R.hblk) hab hb (by omega)
  refine c.mono ?_
  rintro e w' ⟨rfl, n, os, rfl⟩
  exact ⟨rfl, _, ins_good hS hkey d a b hab hb, S.on R.hblk n _ os ((ins_good (key := key) hS hkey d a b hab hb).1.1)⟩
end Go.Proofs.Qxb6600238a
