import Derived.Test.Qxb6600238aSw
set_option linter.unusedVariables false
set_option linter.unusedSimpArgs false
set_option linter.unusedSectionVars false
namespace Go.Proofs.Qxb6600238a
open Go.Shelf Go.RowKit Go.Lib Go.Sort
variable {P : Program} {α κ : Type} [Inhabited α] [DecidableEq κ]

theorem half_eq (i j : Nat) : ((i : Int) + (j : Int)) / 2 = (((i + j) / 2 : Nat) : Int) := by omega
theorem half_wrap (i j : Nat) (h : i + j < 9223372036854775808) : IntKind.i64.wrap (((i : Int) + (j : Int)) / 2) = (((i + j) / 2 : Nat) : Int) := by rw [IntKind.wrap_i64]; omega

set_option maxHeartbeats 4000000 in
set_option maxRecDepth 1000000 in
theorem sm_left {k : Nat} (sp : SP P k)  (F52 : P.funcs[52]? = some Try.f52) (enc : α → List Value) (cf : α → α → Int) (key : α → κ) (hS : SWO (ltOf cf)) (hkey : ∀ x y, ltOf cf x y = true → key x ≠ key y)
    (g : Nat) (cb : Array Value) (eg : ∀ args w, (callFunc g args).run P w = .ok (.enter g args) w) (blk off cap a m b : Nat) (d0 d : Array α) (w0 w : World)
    (R : RowK enc k w0 blk off d0) (hcmp : CmpLays P g cb enc k cf blk off d0.size w0) (hs : d0.size = d.size) (S : SWK enc k w0 blk off d w) (ham : m = a + 1) (hmb : m < b) (hb : b ≤ d.size) (hsz : d.size < 4611686018427387904)
    (hB : SortedIn (ltOf cf) m b d) :
    Calls P 52 #[.slice (some ⟨blk, off, none⟩) d.size cap, .int .i64 a, .int .i64 m, .int .i64 b, .func (.func g) #[] cb] w fun e w' => e = .returned (.tuple #[]) ∧ ∃ d', Good (ltOf cf) key a b d d' ∧ SWK enc k w0 blk off d' w' := by
  obtain ⟨mixed, a41, z41, t0, a0, z0, t3, a3, z3, t4, a4, z4, t36, a36, z36, t64, a64, z64, t65, a65, z65⟩ := sp
  have HC : Aside _ := hcmp
  have S0 : Aside (SWK enc k w0 blk off d w) := S
  have HKEY : Hid (∀ x y, ltOf cf x y = true → key x ≠ key y) := hkey
  have HB : Hid (SortedIn (ltOf cf) m b d) := hB
  have HAM : Hid (m = a + 1) := ham
  have h1 : (((m : Int) - (a : Int)) == 1) = true := by rw [beq_iff_eq]; omega
  have hma : a < m := by omega
  clear S hcmp hkey hB ham
  go_enter F52, Try.ntmps52
  go_wp2
  go_loopw [10, 11] (fun vi vj wr => ∃ (i j : Nat), vi = .int .i64 i ∧ vj = .int .i64 j ∧ m ≤ i ∧ i ≤ j ∧ j ≤ b ∧ Aside (SWK enc k w0 blk off d wr) ∧
      Hid ((i = m ∨ ltOf cf d[i - 1]! d[a]! = true) ∧ (j = b ∨ ltOf cf d[j]! d[a]! = false)))
    (fun vi vj _ => (intOf vj).toNat - (intOf vi).toNat)
  case atStart => exact ⟨m, b, rfl, rfl, Nat.le_refl _, by omega, Nat.le_refl _, S0, .inl rfl, .inl rfl⟩
  case round =>
    clear S0
    obtain ⟨i, j, rfl, rfl, hmi, hij, hjb, S1, HX⟩ := hrel
    by_cases hlt : (i : Int) < (j : Int)
    · obtain ⟨h, hh⟩ : ∃ h : Nat, h = (i + j) / 2 := ⟨_, rfl⟩
      have hh1 : ((i : Int) + (j : Int)) / 2 = (h : Int) := by rw [hh]; exact half_eq i j
      have hhi : i ≤ h := by omega
      have hhj : h < j := by omega
      have hsum : (0 : Int) ≤ (i : Int) + (j : Int) := by omega
      have hsum2 : (i : Int) + (j : Int) < 9223372036854775808 := by omega
      clear hh
      cases hlv : ltOf cf d[h]! d[a]! with
      | true =>
        have HX2 : Hid ((h + 1 = m ∨ ltOf cf d[h + 1 - 1]! d[a]! = true) ∧ (j = b ∨ ltOf cf d[j]! d[a]! = false)) := ⟨.inr (by simpa using hlv), HX.out.2⟩
        have ea1 : ((h : Nat) : Int).toNat = h := by omega
        have pa1 : (0 : Int) ≤ ((h : Nat) : Int) := by omega
        have ba1 : ((h : Nat) : Int) < (d.size : Int) := by omega
        have ra1 : IntKind.i64.wrap ((h : Nat) : Int) = ((h : Nat) : Int) := by rw [IntKind.wrap_i64]; omega
        have ec1 : ((a : Nat) : Int).toNat = a := by omega
        have pc1 : (0 : Int) ≤ ((a : Nat) : Int) := by omega
        have bc1 : ((a : Nat) : Int) < (d.size : Int) := by omega
        have rc1 : IntKind.i64.wrap ((a : Nat) : Int) = ((a : Nat) : Int) := by rw [IntKind.wrap_i64]; omega
        obtain ⟨x1, hx1⟩ : ∃ x, x = d[h]! := ⟨_, rfl⟩
        obtain ⟨y1, hy1⟩ : ∃ x, x = d[a]! := ⟨_, rfl⟩
        have l1a := S1.out.ld R (by omega) P (h) (by omega)
        have l1b := S1.out.ld R (by omega) P (a) (by omega)
        rw [← hx1] at l1a
        rw [← hy1] at l1b
        have hc1 := S1.out.cmp HC.out (by omega) x1 y1
        have hv1 : cf x1 y1 < 0 := by rw [hx1, hy1]; exact of_decide_eq_true hlv
        have hd1 : decide (cf x1 y1 < 0) = true := decide_eq_true hv1
        clear hx1 hy1
        clear HX hlv
        go_wp2_with fail
        go_quiet_grown (first | (go_at_fn g; refine Calls.grown_of (hc1 _ _)))
        have S2 : Aside (SWK enc k w0 blk off d (grow (wr.drewN nq) osq)) := S1.out.grown nq osq
        clear l1a l1b hc1 S1
        generalize grow (wr.drewN nq) osq = w2 at S2 ⊢
        clear nq osq
        go_wp2
        go_roundw
        case rel => exact ⟨h + 1, j, by go_num, rfl, by omega, by omega, hjb, S2, HX2⟩
        case measure => simp [intOf]; omega
      | false =>
        have HX2 : Hid ((i = m ∨ ltOf cf d[i - 1]! d[a]! = true) ∧ (h = b ∨ ltOf cf d[h]! d[a]! = false)) := ⟨HX.out.1, .inr hlv⟩
        have ea1 : ((h : Nat) : Int).toNat = h := by omega
        have pa1 : (0 : Int) ≤ ((h : Nat) : Int) := by omega
        have ba1 : ((h : Nat) : Int) < (d.size : Int) := by omega
        have ra1 : IntKind.i64.wrap ((h : Nat) : Int) = ((h : Nat) : Int) := by rw [IntKind.wrap_i64]; omega
        have ec1 : ((a : Nat) : Int).toNat = a := by omega
        have pc1 : (0 : Int) ≤ ((a : Nat) : Int) := by omega
        have bc1 : ((a : Nat) : Int) < (d.size : Int) := by omega
        have rc1 : IntKind.i64.wrap ((a : Nat) : Int) = ((a : Nat) : Int) := by rw [IntKind.wrap_i64]; omega
        obtain ⟨x1, hx1⟩ : ∃ x, x = d[h]! := ⟨_, rfl⟩
        obtain ⟨y1, hy1⟩ : ∃ x, x = d[a]! := ⟨_, rfl⟩
        have l1a := S1.out.ld R (by omega) P (h) (by omega)
        have l1b := S1.out.ld R (by omega) P (a) (by omega)
        rw [← hx1] at l1a
        rw [← hy1] at l1b
        have hc1 := S1.out.cmp HC.out (by omega) x1 y1
        have hv1 : ¬ cf x1 y1 < 0 := by rw [hx1, hy1]; exact of_decide_eq_false hlv
        have hd1 : decide (cf x1 y1 < 0) = false := decide_eq_false hv1
        clear hx1 hy1
        clear HX hlv
        go_wp2_with fail
        go_quiet_grown (first | (go_at_fn g; refine Calls.grown_of (hc1 _ _)))
        have S2 : Aside (SWK enc k w0 blk off d (grow (wr.drewN nq) osq)) := S1.out.grown nq osq
        clear l1a l1b hc1 S1
        generalize grow (wr.drewN nq) osq = w2 at S2 ⊢
        clear nq osq
        go_wp2
        go_roundw
        case rel => exact ⟨i, h, rfl, rfl, hmi, by omega, by omega, S2, HX2⟩
        case measure => simp [intOf]; omega
    · have hije : i = j := by omega
      subst hije
      have HG : Hid (Good (ltOf cf) key a b d (bubF (i - 1 - a) d a)) := by
        have ham := HAM.out
        refine merge_left hS HKEY.out d a b i (by omega) hjb hb (by rw [← ham]; exact HB.out) ?_ HX.out.2
        rcases HX.out.1 with e | e
        · exact .inl (by omega)
        · exact .inr e
      clear HX hlt
      go_wp2
      go_loopg [13] (i - 1 - a) (fun kx vk wr2 => ∃ (q : Nat) (dk : Array α), vk = .int .i64 q ∧ a ≤ q ∧ q ≤ i - 1 ∧ i - 1 - q ≤ kx ∧ dk.size = d.size ∧ Aside (SWK enc k w0 blk off dk wr2) ∧ Hid (bubF (i - 1 - q) dk q = bubF (i - 1 - a) d a))
      case atStart => exact ⟨a, d, rfl, Nat.le_refl _, by omega, by omega, rfl, S1, rfl⟩
      case round =>
        clear S1
        obtain ⟨q, dk, rfl, haq, hqi, hkx, hds, S1, HE⟩ := hrel
        by_cases hql : (q : Int) < (i : Int) - 1
        · have HE2 : Hid (bubF (i - 1 - (q + 1)) (swp dk q (q + 1)) (q + 1) = bubF (i - 1 - a) d a) := by
            have := HE.out
            rw [show i - 1 - q = (i - 1 - (q + 1)) + 1 by omega] at this
            exact this
          clear HE
          go_wp2_with fail
          have ea2 : ((q : Nat) : Int).toNat = q := by omega
          have pa2 : (0 : Int) ≤ ((q : Nat) : Int) := by omega
          have ba2 : ((q : Nat) : Int) < (d.size : Int) := by omega
          have ra2 : IntKind.i64.wrap ((q : Nat) : Int) = ((q : Nat) : Int) := by rw [IntKind.wrap_i64]; omega
          have ec2 : ((q + 1 : Nat) : Int).toNat = q + 1 := by omega
          have pc2 : (0 : Int) ≤ ((q + 1 : Nat) : Int) := by omega
          have bc2 : ((q + 1 : Nat) : Int) < (d.size : Int) := by omega
          have rc2 : IntKind.i64.wrap ((q + 1 : Nat) : Int) = ((q + 1 : Nat) : Int) := by rw [IntKind.wrap_i64]; omega
          have S2 : Aside (SWK enc k w0 blk off (swp dk (q) (q + 1)) ((wr.drew.setCells blk (off + (q) * k) (enc dk[q + 1]!)).setCells blk (off + (q + 1) * k) (enc dk[q]!))) := S1.out.swapped R (q) (q + 1) (by omega) (by omega)
          have l2a := S1.out.ld1 R (by omega) P (q) (by omega)
          have l2b := S1.out.ld1 R (by omega) P (q + 1) (by omega)
          have s2a := S1.out.st1 R (by omega) P (q) (by omega) dk[q + 1]!
          have s2b := S1.out.st2 R (by omega) P (q) (q + 1) (by omega) (by omega) dk[q + 1]! dk[q]!
          have n2a : (enc dk[q]!).length = k := R.hk _
          have n2b : (enc dk[q + 1]!).length = k := R.hk _
          generalize enc dk[q]! = cI2 at S2 l2a s2b n2a
          generalize enc dk[q + 1]! = cJ2 at S2 l2b s2a s2b n2b
          clear S1
          rw [show ((q + 1 : Nat) : Int) = (q : Int) + 1 by omega] at ec2 pc2 bc2 rc2
          go_wp2_with fail
          go_big_region_o
          clear l2a l2b s2a s2b
          generalize (wr.drew.setCells blk (off + (q) * k) cJ2).setCells blk (off + (q + 1) * k) cI2 = w2 at S2 ⊢
          go_wp2
          go_roundg (i - 1 - (q + 1))
          case measure => omega
          case rel => exact ⟨q + 1, swp dk q (q + 1), by go_num, by omega, by omega, by omega, by rw [size_swp]; exact hds, S2, HE2⟩
        · have hqe : q = i - 1 := by omega
          have HD : Hid (dk = bubF (i - 1 - a) d a) := by
            have := HE.out
            rw [hqe, Nat.sub_self] at this
            exact this
          clear HE
          go_wp2
          refine bodyPost_ret (results_none rfl _ _ _) rfl ?_
          exact ⟨rfl, _, HG.out, by rw [← HD.out]; exact S1.out⟩
set_option maxHeartbeats 4000000 in
set_option maxRecDepth 1000000 in
theorem sm_right {k : Nat} (sp : SP P k)  (F52 : P.funcs[52]? = some Try.f52) (enc : α → List Value) (cf : α → α → Int) (key : α → κ) (hS : SWO (ltOf cf)) (hkey : ∀ x y, ltOf cf x y = true → key x ≠ key y)
    (g : Nat) (cb : Array Value) (eg : ∀ args w, (callFunc g args).run P w = .ok (.enter g args) w) (blk off cap a m b : Nat) (d0 d : Array α) (w0 w : World)
    (R : RowK enc k w0 blk off d0) (hcmp : CmpLays P g cb enc k cf blk off d0.size w0) (hs : d0.size = d.size) (S : SWK enc k w0 blk off d w) (ham : a + 1 < m) (hmb : b = m + 1) (hb : b ≤ d.size) (hsz : d.size < 4611686018427387904)
    (hA : SortedIn (ltOf cf) a m d) :
    Calls P 52 #[.slice (some ⟨blk, off, none⟩) d.size cap, .int .i64 a, .int .i64 m, .int .i64 b, .func (.func g) #[] cb] w fun e w' => e = .returned (.tuple #[]) ∧ ∃ d', Good (ltOf cf) key a b d d' ∧ SWK enc k w0 blk off d' w' := by
  obtain ⟨mixed, a41, z41, t0, a0, z0, t3, a3, z3, t4, a4, z4, t36, a36, z36, t64, a64, z64, t65, a65, z65⟩ := sp
  have HC : Aside _ := hcmp
  have S0 : Aside (SWK enc k w0 blk off d w) := S
  have HKEY : Hid (∀ x y, ltOf cf x y = true → key x ≠ key y) := hkey
  have HA : Hid (SortedIn (ltOf cf) a m d) := hA
  have HBM : Hid (b = m + 1) := hmb
  have h0 : (((m : Int) - (a : Int)) == 1) = false := by rw [beq_eq_false_iff_ne]; omega
  have h1 : (((b : Int) - (m : Int)) == 1) = true := by rw [beq_iff_eq]; omega
  have hmb2 : m < d.size := by omega
  have hmb3 : m < b := by omega
  clear S hcmp hkey hA hmb
  go_enter F52, Try.ntmps52
  go_wp2
  go_loopw [14, 15] (fun vi vj wr => ∃ (i j : Nat), vi = .int .i64 i ∧ vj = .int .i64 j ∧ a ≤ i ∧ i ≤ j ∧ j ≤ m ∧ Aside (SWK enc k w0 blk off d wr) ∧
      Hid ((i = a ∨ ltOf cf d[m]! d[i - 1]! = false) ∧ (j = m ∨ ltOf cf d[m]! d[j]! = true)))
    (fun vi vj _ => (intOf vj).toNat - (intOf vi).toNat)
  case atStart => exact ⟨a, m, rfl, rfl, Nat.le_refl _, by omega, Nat.le_refl _, S0, .inl rfl, .inl rfl⟩
  case round =>
    clear S0
    obtain ⟨i, j, rfl, rfl, hmi, hij, hjb, S1, HX⟩ := hrel
    by_cases hlt : (i : Int) < (j : Int)
    · obtain ⟨h, hh⟩ : ∃ h : Nat, h = (i + j) / 2 := ⟨_, rfl⟩
      have hh1 : ((i : Int) + (j : Int)) / 2 = (h : Int) := by rw [hh]; exact half_eq i j
      have hhi : i ≤ h := by omega
      have hhj : h < j := by omega
      have hsum : (0 : Int) ≤ (i : Int) + (j : Int) := by omega
      have hsum2 : (i : Int) + (j : Int) < 9223372036854775808 := by omega
      clear hh
      cases hlv : ltOf cf d[m]! d[h]! with
      | false =>
        have HX2 : Hid ((h + 1 = a ∨ ltOf cf d[m]! d[h + 1 - 1]! = false) ∧ (j = m ∨ ltOf cf d[m]! d[j]! = true)) := ⟨.inr (by simpa using hlv), HX.out.2⟩
        have ea1 : ((m : Nat) : Int).toNat = m := by omega
        have pa1 : (0 : Int) ≤ ((m : Nat) : Int) := by omega
        have ba1 : ((m : Nat) : Int) < (d.size : Int) := by omega
        have ra1 : IntKind.i64.wrap ((m : Nat) : Int) = ((m : Nat) : Int) := by rw [IntKind.wrap_i64]; omega
        have ec1 : ((h : Nat) : Int).toNat = h := by omega
        have pc1 : (0 : Int) ≤ ((h : Nat) : Int) := by omega
        have bc1 : ((h : Nat) : Int) < (d.size : Int) := by omega
        have rc1 : IntKind.i64.wrap ((h : Nat) : Int) = ((h : Nat) : Int) := by rw [IntKind.wrap_i64]; omega
        obtain ⟨x1, hx1⟩ : ∃ x, x = d[m]! := ⟨_, rfl⟩
        obtain ⟨y1, hy1⟩ : ∃ x, x = d[h]! := ⟨_, rfl⟩
        have l1a := S1.out.ld R (by omega) P (m) (by omega)
        have l1b := S1.out.ld R (by omega) P (h) (by omega)
        rw [← hx1] at l1a
        rw [← hy1] at l1b
        have hc1 := S1.out.cmp HC.out (by omega) x1 y1
        have hv1 : ¬ cf x1 y1 < 0 := by rw [hx1, hy1]; exact of_decide_eq_false hlv
        have hd1 : decide (cf x1 y1 < 0) = false := decide_eq_false hv1
        clear hx1 hy1
        clear HX hlv
        go_wp2_with fail
        go_quiet_grown (first | (go_at_fn g; refine Calls.grown_of (hc1 _ _)))
        have S2 : Aside (SWK enc k w0 blk off d (grow (wr.drewN nq) osq)) := S1.out.grown nq osq
        clear l1a l1b hc1 S1
        generalize grow (wr.drewN nq) osq = w2 at S2 ⊢
        clear nq osq
        go_wp2
        go_roundw
        case rel => exact ⟨h + 1, j, by go_num, rfl, by omega, by omega, hjb, S2, HX2⟩
        case measure => simp [intOf]; omega
      | true =>
        have HX2 : Hid ((i = a ∨ ltOf cf d[m]! d[i - 1]! = false) ∧ (h = m ∨ ltOf cf d[m]! d[h]! = true)) := ⟨HX.out.1, .inr hlv⟩
        have ea1 : ((m : Nat) : Int).toNat = m := by omega
        have pa1 : (0 : Int) ≤ ((m : Nat) : Int) := by omega
        have ba1 : ((m : Nat) : Int) < (d.size : Int) := by omega
        have ra1 : IntKind.i64.wrap ((m : Nat) : Int) = ((m : Nat) : Int) := by rw [IntKind.wrap_i64]; omega
        have ec1 : ((h : Nat) : Int).toNat = h := by omega
        have pc1 : (0 : Int) ≤ ((h : Nat) : Int) := by omega
        have bc1 : ((h : Nat) : Int) < (d.size : Int) := by omega
        have rc1 : IntKind.i64.wrap ((h : Nat) : Int) = ((h : Nat) : Int) := by rw [IntKind.wrap_i64]; omega
        obtain ⟨x1, hx1⟩ : ∃ x, x = d[m]! := ⟨_, rfl⟩
        obtain ⟨y1, hy1⟩ : ∃ x, x = d[h]! := ⟨_, rfl⟩
        have l1a := S1.out.ld R (by omega) P (m) (by omega)
        have l1b := S1.out.ld R (by omega) P (h) (by omega)
        rw [← hx1] at l1a
        rw [← hy1] at l1b
        have hc1 := S1.out.cmp HC.out (by omega) x1 y1
        have hv1 : cf x1 y1 < 0 := by rw [hx1, hy1]; exact of_decide_eq_true hlv
        have hd1 : decide (cf x1 y1 < 0) = true := decide_eq_true hv1
        clear hx1 hy1
        clear HX hlv
        go_wp2_with fail
        go_quiet_grown (first | (go_at_fn g; refine Calls.grown_of (hc1 _ _)))
        have S2 : Aside (SWK enc k w0 blk off d (grow (wr.drewN nq) osq)) := S1.out.grown nq osq
        clear l1a l1b hc1 S1
        generalize grow (wr.drewN nq) osq = w2 at S2 ⊢
        clear nq osq
        go_wp2
        go_roundw
        case rel => exact ⟨i, h, rfl, rfl, hmi, by omega, by omega, S2, HX2⟩
        case measure => simp [intOf]; omega
    · have hije : i = j := by omega
      subst hije
      have HG : Hid (Good (ltOf cf) key a b d (bubB (m - i) d m)) := by
        rw [HBM.out]
        exact merge_right hS HKEY.out d a m i hmi hjb hmb2 HA.out HX.out.1 HX.out.2
      clear HX hlt
      go_wp2
      go_loopg [17] (m - i) (fun kx vk wr2 => ∃ (q : Nat) (dk : Array α), vk = .int .i64 q ∧ i ≤ q ∧ q ≤ m ∧ q - i ≤ kx ∧ dk.size = d.size ∧ Aside (SWK enc k w0 blk off dk wr2) ∧ Hid (bubB (q - i) dk q = bubB (m - i) d m))
      case atStart => exact ⟨m, d, rfl, by omega, Nat.le_refl _, by omega, rfl, S1, rfl⟩
      case round =>
        clear S1
        obtain ⟨q, dk, rfl, haq, hqi, hkx, hds, S1, HE⟩ := hrel
        by_cases hql : (i : Int) < (q : Int)
        · obtain ⟨qp, rfl⟩ : ∃ qp, q = qp + 1 := ⟨q - 1, by omega⟩
          have HE2 : Hid (bubB (qp - i) (swp dk (qp + 1) qp) qp = bubB (m - i) d m) := by
            have := HE.out
            rw [show qp + 1 - i = (qp - i) + 1 by omega] at this
            exact this
          clear HE
          go_wp2_with fail
          have ea2 : ((qp + 1 : Nat) : Int).toNat = qp + 1 := by omega
          have pa2 : (0 : Int) ≤ ((qp + 1 : Nat) : Int) := by omega
          have ba2 : ((qp + 1 : Nat) : Int) < (d.size : Int) := by omega
          have ra2 : IntKind.i64.wrap ((qp + 1 : Nat) : Int) = ((qp + 1 : Nat) : Int) := by rw [IntKind.wrap_i64]; omega
          have ec2 : ((qp : Nat) : Int).toNat = qp := by omega
          have pc2 : (0 : Int) ≤ ((qp : Nat) : Int) := by omega
          have bc2 : ((qp : Nat) : Int) < (d.size : Int) := by omega
          have rc2 : IntKind.i64.wrap ((qp : Nat) : Int) = ((qp : Nat) : Int) := by rw [IntKind.wrap_i64]; omega
          have S2 : Aside (SWK enc k w0 blk off (swp dk (qp + 1) (qp)) ((wr.drew.setCells blk (off + (qp + 1) * k) (enc dk[qp]!)).setCells blk (off + (qp) * k) (enc dk[qp + 1]!))) := S1.out.swapped R (qp + 1) (qp) (by omega) (by omega)
          have l2a := S1.out.ld1 R (by omega) P (qp + 1) (by omega)
          have l2b := S1.out.ld1 R (by omega) P (qp) (by omega)
          have s2a := S1.out.st1 R (by omega) P (qp + 1) (by omega) dk[qp]!
          have s2b := S1.out.st2 R (by omega) P (qp + 1) (qp) (by omega) (by omega) dk[qp]! dk[qp + 1]!
          have n2a : (enc dk[qp + 1]!).length = k := R.hk _
          have n2b : (enc dk[qp]!).length = k := R.hk _
          generalize enc dk[qp + 1]! = cI2 at S2 l2a s2b n2a
          generalize enc dk[qp]! = cJ2 at S2 l2b s2a s2b n2b
          clear S1
          rw [show ((qp + 1 : Nat) : Int) = (qp : Int) + 1 by omega] at ea2 pa2 ba2 ra2
          go_wp2_with fail
          go_big_region_o
          clear l2a l2b s2a s2b
          generalize (wr.drew.setCells blk (off + (qp + 1) * k) cJ2).setCells blk (off + (qp) * k) cI2 = w2 at S2 ⊢
          go_wp2
          go_roundg (qp - i)
          case measure => omega
          case rel => exact ⟨qp, swp dk (qp + 1) qp, by first | rfl | go_num | (congr 1; omega), by omega, by omega, by omega, by rw [size_swp]; exact hds, S2, HE2⟩
        · have hqe : q = i := by omega
          have HD : Hid (dk = bubB (m - i) d m) := by
            have := HE.out
            rw [hqe, Nat.sub_self] at this
            exact this
          clear HE
          go_wp2
          refine bodyPost_ret (results_none rfl _ _ _) rfl ?_
          exact ⟨rfl, _, HG.out, by rw [← HD.out]; exact S1.out⟩
end Go.Proofs.Qxb6600238a
