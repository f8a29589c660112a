import Derived.Test.Qxb6600238aSt
set_option linter.unusedVariables false
set_option linter.unusedSimpArgs false
set_option linter.unusedSectionVars false
namespace Go.Proofs.Qxb6600238a
open Go.Shelf Go.RowKit Go.Lib Go.Sort
variable {α κ : Type} [Inhabited α] [DecidableEq κ]

/-- So far: a permutation of the whole, those of one key in their order. -/
def Sofar (key : α → κ) (d dk : Array α) : Prop := PermIn 0 d.size d dk ∧ Stab key d.toList dk.toList
theorem Sofar.refl (key : α → κ) (d : Array α) : Sofar key d d := ⟨permIn_refl d _ _, Stab.refl _ _⟩
theorem Sofar.good {lt : α → α → Bool} {key : α → κ} {d dk dk' : Array α} {a b : Nat} (h : Sofar key d dk) (g : Good lt key a b dk dk') (hb : b ≤ d.size) : Sofar key d dk' :=
  ⟨permIn_trans d dk dk' 0 d.size h.1 (permIn_mono dk dk' a b 0 d.size (Nat.zero_le _) hb (by rw [h.1.1]; exact Nat.le_refl _) g.1), h.2.trans g.2.1⟩

set_option maxHeartbeats 4000000 in
set_option maxRecDepth 1000000 in
theorem stable_any (enc : α → List Value) (cf : α → α → Int) (key : α → κ) (hS : SWO (ltOf cf)) (hkey : ∀ x y, ltOf cf x y = true → key x ≠ key y)
    (g : Nat) (cb : Array Value) (eg : ∀ args w, (callFunc g args).run Try.prog w = .ok (.enter g args) w) (blk off cap : Nat) (d : Array α) (w : World)
    (R : RowK enc 2 w blk off d) (hcmp : CmpLays Try.prog g cb enc 2 cf blk off d.size w) (hsz : d.size < 1152921504606846976) :
    Calls Try.prog 49 #[.slice (some ⟨blk, off, none⟩) d.size cap, .int .i64 d.size, .func (.func g) #[] cb] w fun e w' => e = .returned (.tuple #[]) ∧ ∃ d', Good (ltOf cf) key 0 d.size d d' ∧ SWK enc 2 w blk off d' w' := by
  have HSM : Aside (∀ (a m b : Nat) (dk : Array α) (wx : World), d.size = dk.size → SWK enc 2 w blk off dk wx → a < m → m < b → b ≤ d.size → SortedIn (ltOf cf) a m dk → SortedIn (ltOf cf) m b dk →
      Calls Try.prog 52 #[.slice (some ⟨blk, off, none⟩) d.size cap, .int .i64 a, .int .i64 m, .int .i64 b, .func (.func g) #[] cb] wx fun e w' => e = .returned (.tuple #[]) ∧ ∃ d', Good (ltOf cf) key a b dk d' ∧ SWK enc 2 w blk off d' w') := by
    intro a m b dk wx h1 h2 h3 h4 h5 h6 h7
    have := sm_any enc cf key hS hkey g cb eg blk off cap d w R hcmp (by omega) (b - a) a m b dk wx (Nat.le_refl _) h1 h2 h3 h4 (by omega) h6 h7
    rw [← h1] at this
    exact this
  have HIN : Aside (∀ (a b : Nat) (dk : Array α) (wx : World), d.size = dk.size → SWK enc 2 w blk off dk wx → a ≤ b → b ≤ d.size →
      Calls Try.prog 51 #[.slice (some ⟨blk, off, none⟩) d.size cap, .int .i64 a, .int .i64 b, .func (.func g) #[] cb] wx fun e w' => e = .returned (.tuple #[]) ∧ ∃ d', Good (ltOf cf) key a b dk d' ∧ SWK enc 2 w blk off d' w') := by
    intro a b dk wx h1 h2 h3 h4
    have := ins_any enc cf key hS hkey g cb eg blk off cap a b d dk w wx R hcmp (by omega) h1 h2 h3 (by omega)
    rw [← h1] at this
    exact this
  have S0 : Aside (SWK enc 2 w blk off d w) := SWK.start R.hH
  have HSW : Hid (SWO (ltOf cf)) := hS
  clear hcmp hkey hS
  go_enter Try.func49, Try.ntmps49
  go_wp2
  go_loopg [7, 8] d.size (fun kx va vb wr => ∃ (a : Nat) (dk : Array α), va = .int .i64 a ∧ vb = .int .i64 ((a : Int) + 20) ∧ a ≤ d.size ∧ d.size - a ≤ kx ∧ dk.size = d.size ∧ Aside (SWK enc 2 w blk off dk wr) ∧ Hid (Sofar key d dk ∧ BlkI (ltOf cf) 20 a dk ∧ ∃ q, a = q * 20))
  case atStart => exact ⟨0, d, rfl, rfl, Nat.zero_le _, by omega, rfl, S0, Sofar.refl _ _, fun i j _ h => by omega, 0, rfl⟩
  case round =>
    clear S0
    obtain ⟨a, dk, rfl, rfl, han, hkx, hds, S1, HX⟩ := hrel
    by_cases hle : a + 20 ≤ d.size
    · have hlei : (a : Int) + 20 ≤ (d.size : Int) := by omega
      have c := HIN.out a (a + 20) dk wr (by omega) S1.out (by omega) hle
      rw [show ((a + 20 : Nat) : Int) = (a : Int) + 20 by omega] at c
      clear S1
      go_wp2_with fail
      refine c.mono ?_
      rintro e w2 ⟨rfl, d2, hG, hS2⟩
      have S2 : Aside (SWK enc 2 w blk off d2 w2) := hS2
      have hds2 : d2.size = d.size := hG.1.1.trans hds
      have HX2 : Hid (Sofar key d d2 ∧ BlkI (ltOf cf) 20 (a + 20) d2 ∧ ∃ q, a + 20 = q * 20) := by
        obtain ⟨f1, f2, q, f3⟩ := HX.out
        refine ⟨f1.good hG hle, ?_, q + 1, by omega⟩
        rw [f3] at f2 hG ⊢
        exact BlkI.step (by omega) f2 (Nat.le_refl _) (by omega) hG
      clear hS2 hG c HX
      go_wp2_with fail
      go_roundg (d.size - (a + 20))
      case measure => omega
      case rel => exact ⟨a + 20, d2, by go_num, by go_num, hle, Nat.le_refl _, hds2, S2, HX2⟩
    · have hlei : ¬ (a : Int) + 20 ≤ (d.size : Int) := by omega
      have c := HIN.out a d.size dk wr (by omega) S1.out han (Nat.le_refl _)
      clear S1
      go_wp2_with fail
      refine c.mono ?_
      rintro e w2 ⟨rfl, d2, hG, hS2⟩
      have S2 : Aside (SWK enc 2 w blk off d2 w2) := hS2
      have hds2 : d2.size = d.size := hG.1.1.trans hds
      have HX2 : Hid (Sofar key d d2 ∧ BlkS (ltOf cf) 20 0 d2) := by
        obtain ⟨f1, f2, q, f3⟩ := HX.out
        refine ⟨f1.good hG (Nat.le_refl _), ?_⟩
        apply BlkI.start
        rw [hds2]
        rw [f3] at f2 hG
        exact BlkI.step (by omega) f2 (by omega) (by omega) hG
      clear hS2 hG c HX hlei hkx hle
      go_wp2_with fail
      go_loopg [6, 7, 8, 9] d.size (fun kx vs v7 v8 v9 wr => ∃ (bs : Nat) (dk : Array α), vs = .int .i64 bs ∧ 0 < bs ∧ bs ≤ 2 * d.size + 20 ∧ d.size - bs ≤ kx ∧ dk.size = d.size ∧ Aside (SWK enc 2 w blk off dk wr) ∧ Hid (Sofar key d dk ∧ BlkS (ltOf cf) bs 0 dk))
      case atStart => exact ⟨20, d2, rfl, by omega, by omega, by omega, hds2, S2, HX2⟩
      case round =>
        clear S2
        obtain ⟨bs, dk, rfl, hbs0, hbs1, hkx, hds, S1, HX⟩ := hrel
        by_cases hlt : (bs : Int) < (d.size : Int)
        · have hbn : bs < d.size := by omega
          have HX0 : Hid (Sofar key d dk ∧ BlkS (ltOf cf) bs 0 dk ∧ ∃ q, 0 = q * (2 * bs)) := ⟨HX.out.1, HX.out.2, 0, by omega⟩
          clear HX
          go_wp2_with fail
          go_loopg [7, 8] d.size (fun kx va vb wr => ∃ (a : Nat) (dk : Array α), va = .int .i64 a ∧ vb = .int .i64 ((a : Int) + 2 * (bs : Int)) ∧ a ≤ d.size ∧ d.size - a ≤ kx ∧ dk.size = d.size ∧ Aside (SWK enc 2 w blk off dk wr) ∧ Hid (Sofar key d dk ∧ BlkS (ltOf cf) bs a dk ∧ ∃ q, a = q * (2 * bs)))
          case atStart => exact ⟨0, dk, rfl, by go_num, Nat.zero_le _, by omega, hds, S1, HX0⟩
          case round =>
            clear S1 HX0
            rename_i hkx0 hds0 _ _ _
            obtain ⟨a, dk, rfl, rfl, han, hkx3, hds, S1, HX⟩ := hrel
            by_cases hle : a + 2 * bs ≤ d.size
            · have hlei : (a : Int) + 2 * (bs : Int) ≤ (d.size : Int) := by omega
              have c := HSM.out a (a + bs) (a + 2 * bs) dk wr (by omega) S1.out (by omega) (by omega) hle (by
                  obtain ⟨f1, f2, q, f3⟩ := HX.out
                  rw [f3] at f2 ⊢
                  exact f2.half1 hbs0 (by omega)) (by
                  obtain ⟨f1, f2, q, f3⟩ := HX.out
                  rw [f3] at f2 ⊢
                  exact f2.half2 hbs0 (by omega) (by omega))
              rw [show ((a + bs : Nat) : Int) = (a : Int) + (bs : Int) by omega, show ((a + 2 * bs : Nat) : Int) = (a : Int) + 2 * (bs : Int) by omega] at c
              clear S1
              go_wp2_with fail
              refine c.mono ?_
              rintro e w2 ⟨rfl, d2, hG, hS2⟩
              have S2 : Aside (SWK enc 2 w blk off d2 w2) := hS2
              have hds2 : d2.size = d.size := hG.1.1.trans hds
              have HX2 : Hid (Sofar key d d2 ∧ BlkS (ltOf cf) bs (a + 2 * bs) d2 ∧ ∃ q, a + 2 * bs = q * (2 * bs)) := by
                obtain ⟨f1, f2, q, f3⟩ := HX.out
                refine ⟨f1.good hG hle, ?_, q + 1, by rw [Nat.add_mul, Nat.one_mul]; omega⟩
                rw [f3] at f2 hG ⊢
                exact BlkS.step hbs0 f2 (Nat.le_refl _) (by omega) hG
              clear hS2 hG c HX
              go_wp2_with fail
              go_roundg (d.size - (a + 2 * bs))
              case measure => omega
              case rel => exact ⟨a + 2 * bs, d2, by go_num, by go_num, hle, Nat.le_refl _, hds2, S2, HX2⟩
            · have hlei : ¬ (a : Int) + 2 * (bs : Int) ≤ (d.size : Int) := by omega
              by_cases hm : a + bs < d.size
              · have hmi : (a : Int) + (bs : Int) < (d.size : Int) := by omega
                have c := HSM.out a (a + bs) d.size dk wr (by omega) S1.out (by omega) (by omega) (Nat.le_refl _) (by
                  obtain ⟨f1, f2, q, f3⟩ := HX.out
                  rw [f3] at f2 ⊢
                  exact f2.half1 hbs0 (by omega)) (by
                  obtain ⟨f1, f2, q, f3⟩ := HX.out
                  rw [f3] at f2 ⊢
                  exact f2.half2 hbs0 (by omega) (by omega))
                rw [show ((a + bs : Nat) : Int) = (a : Int) + (bs : Int) by omega] at c
                clear S1
                go_wp2_with fail
                refine c.mono ?_
                rintro e w2 ⟨rfl, d2, hG, hS2⟩
                have S2 : Aside (SWK enc 2 w blk off d2 w2) := hS2
                have hds2 : d2.size = d.size := hG.1.1.trans hds
                have HX2 : Hid (Sofar key d d2 ∧ BlkS (ltOf cf) (2 * bs) 0 d2) := by
                  obtain ⟨f1, f2, q, f3⟩ := HX.out
                  refine ⟨f1.good hG (Nat.le_refl _), ?_⟩
                  apply BlkS.done
                  rw [hds2]
                  rw [f3] at f2 hG
                  exact BlkS.step hbs0 f2 (by omega) (by omega) hG
                clear hS2 hG c HX
                go_wp2_with fail
                go_roundg (d.size - 2 * bs)
                case measure => omega
                case rel => exact ⟨2 * bs, d2, by go_num, by omega, by omega, Nat.le_refl _, hds2, S2, HX2⟩
              · have hmi : ¬ (a : Int) + (bs : Int) < (d.size : Int) := by omega
                have HX2 : Hid (Sofar key d dk ∧ BlkS (ltOf cf) (2 * bs) 0 dk) := by
                  obtain ⟨f1, f2, q, f3⟩ := HX.out
                  refine ⟨f1, ?_⟩
                  apply BlkS.done
                  rw [hds]
                  rw [f3] at f2
                  have hall := f2.all hbs0 (c := d.size) (by omega) (by omega)
                  exact BlkS.step (key := key) hbs0 f2 (by omega) (by omega) (good_self dk _ _ hall)
                clear HX
                go_wp2_with fail
                go_roundg (d.size - 2 * bs)
                case measure => omega
                case rel => exact ⟨2 * bs, dk, by go_num, by omega, by omega, Nat.le_refl _, hds, S1, HX2⟩
        · have HG : Hid (Good (ltOf cf) key 0 d.size d dk) := by
            obtain ⟨f1, f2⟩ := HX.out
            refine ⟨f1.1, f1.2, ?_⟩
            have := f2.sorted (by omega)
            rw [hds] at this
            exact this
          clear HX
          go_wp2_with fail
          go_end0
          exact ⟨rfl, _, HG.out, S1.out⟩
end Go.Proofs.Qxb6600238a
