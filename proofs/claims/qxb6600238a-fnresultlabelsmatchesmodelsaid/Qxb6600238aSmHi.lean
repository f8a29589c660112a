import Derived.Test.Qxb6600238aSm
set_option linter.unusedVariables false
set_option linter.unusedSimpArgs false
set_option linter.unusedSectionVars false
namespace Go.Proofs.Qxb6600238a
open Go.Shelf Go.RowKit Go.Lib Go.Sort
variable {P : Program} {α κ : Type} [Inhabited α] [DecidableEq κ]


set_option maxHeartbeats 4000000 in
set_option maxRecDepth 1000000 in
theorem sm_gen_hi {k : Nat} (sp : SP P k) (F54 : P.funcs[54]? = some Try.f54) (F53 : P.funcs[53]? = some Try.f53) (F52 : P.funcs[52]? = some Try.f52) (enc : α → List Value) (cf : α → α → Int) (key : α → κ) (hS : SWO (ltOf cf)) (hkey : ∀ x y, ltOf cf x y = true → key x ≠ key y)
    (g : Nat) (cb : Array Value) (eg : ∀ args w, (callFunc g args).run P w = .ok (.enter g args) w) (blk off cap a m b : Nat) (d0 d : Array α) (w0 w : World)
    (R : RowK enc k w0 blk off d0) (hcmp : CmpLays P g cb enc k cf blk off d0.size w0) (hs : d0.size = d.size) (S : SWK enc k w0 blk off d w) (ham : a + 1 < m) (hmb : m + 1 < b) (hb : b ≤ d.size) (hsz : d.size < 4611686018427387904) (hcase : (a + b) / 2 < m)
    (hA : SortedIn (ltOf cf) a m d) (hB : SortedIn (ltOf cf) m b d)
    (IH : ∀ (a' m' b' : Nat) (d : Array α) (w : World), b' - a' < b - a → d0.size = d.size → SWK enc k w0 blk off d w → a' < m' → m' < b' → b' ≤ d.size → SortedIn (ltOf cf) a' m' d → SortedIn (ltOf cf) m' b' d →
      Calls P 52 #[.slice (some ⟨blk, off, none⟩) d.size cap, .int .i64 a', .int .i64 m', .int .i64 b', .func (.func g) #[] cb] w fun e w' => e = .returned (.tuple #[]) ∧ ∃ d', Good (ltOf cf) key a' b' d d' ∧ SWK enc k w0 blk off d' w') :
    Calls P 52 #[.slice (some ⟨blk, off, none⟩) d.size cap, .int .i64 a, .int .i64 m, .int .i64 b, .func (.func g) #[] cb] w fun e w' => e = .returned (.tuple #[]) ∧ ∃ d', Good (ltOf cf) key a b d d' ∧ SWK enc k w0 blk off d' w' := by
  have HSP : Aside (SP P k) := sp
  have e53 : ∀ args w, (callFunc 53 args).run P w = .ok (.enter 53 args) w := enters_of F53 (by kernel_rfl) rfl
  have e52 : ∀ args w, (callFunc 52 args).run P w = .ok (.enter 52 args) w := enters_of F52 (by kernel_rfl) rfl
  obtain ⟨mixed, a41, z41, t0, a0, z0, t3, a3, z3, t4, a4, z4, t36, a36, z36, t64, a64, z64, t65, a65, z65⟩ := sp
  have HC : Aside _ := hcmp
  have S0 : Aside (SWK enc k w0 blk off d w) := S
  have HKEY : Hid (∀ x y, ltOf cf x y = true → key x ≠ key y) := hkey
  have HA : Hid (SortedIn (ltOf cf) a m d) := hA
  have HB : Hid (SortedIn (ltOf cf) m b d) := hB
  have HIH : Aside _ := IH
  have h0 : (((m : Int) - (a : Int)) == 1) = false := by rw [beq_eq_false_iff_ne]; omega
  have h1 : (((b : Int) - (m : Int)) == 1) = false := by rw [beq_eq_false_iff_ne]; omega
  obtain ⟨mid, hmid⟩ : ∃ mid : Nat, mid = (a + b) / 2 := ⟨_, rfl⟩
  have hmid1 : ((a : Int) + (b : Int)) / 2 = (mid : Int) := by omega
  have hmid2 : 2 * mid ≤ a + b := by omega
  have hmid3 : a + b < 2 * mid + 2 := by omega
  rw [← hmid] at hcase
  clear hmid
  obtain ⟨p, hp⟩ : ∃ p : Nat, p = mid + m - 1 := ⟨_, rfl⟩
  have hp1 : (mid : Int) + (m : Int) - 1 = (p : Int) := by omega
  clear hp
  have hsab : (0 : Int) ≤ (a : Int) + (b : Int) := by omega
  have hsab2 : (a : Int) + (b : Int) < 9223372036854775808 := by omega
  have hgt : (mid : Int) < (m : Int) := by omega
  obtain ⟨s0, hs0⟩ : ∃ s0 : Nat, s0 = p + 1 - b := ⟨_, rfl⟩
  have hs01 : (mid : Int) + (m : Int) - (b : Int) = (s0 : Int) := by omega
  clear hs0
  clear S hcmp hkey hA hB IH
  go_enter F52, Try.ntmps52
  go_wp2
  clear hsab hsab2
  go_loopw [20, 21] (fun vs vr wr => ∃ (s r : Nat), vs = .int .i64 s ∧ vr = .int .i64 r ∧ s0 ≤ s ∧ s ≤ r ∧ r ≤ mid ∧ Aside (SWK enc k w0 blk off d wr) ∧
      Hid ((s = s0 ∨ ltOf cf d[p + 1 - s]! d[s - 1]! = false) ∧ (r = mid ∨ ltOf cf d[p - r]! d[r]! = true)))
    (fun vs vr _ => (intOf vr).toNat - (intOf vs).toNat)
  case atStart => exact ⟨s0, mid, by first | rfl | go_num, by first | rfl | go_num, Nat.le_refl _, by omega, Nat.le_refl _, S0, .inl rfl, .inl rfl⟩
  case round =>
    clear S0
    obtain ⟨s, r, rfl, rfl, hss, hsr, hrr, S1, HX⟩ := hrel
    by_cases hlt : (s : Int) < (r : Int)
    · obtain ⟨h, hh⟩ : ∃ h : Nat, h = (s + r) / 2 := ⟨_, rfl⟩
      have hh1 : ((s : Int) + (r : Int)) / 2 = (h : Int) := by rw [hh]; exact half_eq s r
      have hhi : s ≤ h := by omega
      have hhj : h < r := by omega
      have hsum : (0 : Int) ≤ (s : Int) + (r : Int) := by omega
      have hsum2 : (s : Int) + (r : Int) < 9223372036854775808 := by omega
      clear hh
      obtain ⟨y, hy⟩ : ∃ y : Nat, y = p - h := ⟨_, rfl⟩
      have hy1 : (p : Int) - (h : Int) = (y : Int) := by omega
      cases hlv : ltOf cf d[y]! d[h]! with
      | false =>
        have HX2 : Hid ((h + 1 = s0 ∨ ltOf cf d[p + 1 - (h + 1)]! d[h + 1 - 1]! = false) ∧ (r = mid ∨ ltOf cf d[p - r]! d[r]! = true)) := ⟨.inr (by rw [show p + 1 - (h + 1) = y by omega, Nat.add_sub_cancel]; exact hlv), HX.out.2⟩
        have hyd : y < d.size := by omega
        have hhd : h < d.size := by omega
        have ea1 : ((y : Nat) : Int).toNat = y := by omega
        have pa1 : (0 : Int) ≤ ((y : Nat) : Int) := by omega
        have ba1 : ((y : Nat) : Int) < (d.size : Int) := by omega
        have ra1 : IntKind.i64.wrap ((y : Nat) : Int) = ((y : Nat) : Int) := by rw [IntKind.wrap_i64]; omega
        have ec1 : ((h : Nat) : Int).toNat = h := by omega
        have pc1 : (0 : Int) ≤ ((h : Nat) : Int) := by omega
        have bc1 : ((h : Nat) : Int) < (d.size : Int) := by omega
        have rc1 : IntKind.i64.wrap ((h : Nat) : Int) = ((h : Nat) : Int) := by rw [IntKind.wrap_i64]; omega
        obtain ⟨x1, hx1⟩ : ∃ x, x = d[y]! := ⟨_, rfl⟩
        obtain ⟨y1, hy1⟩ : ∃ x, x = d[h]! := ⟨_, rfl⟩
        have l1a := S1.out.ld R (by omega) P (y) (by omega)
        have l1b := S1.out.ld R (by omega) P (h) (by omega)
        rw [← hx1] at l1a
        rw [← hy1] at l1b
        have hc1 := S1.out.cmp HC.out (by omega) x1 y1
        have hv1 : ¬ cf x1 y1 < 0 := by rw [hx1, hy1]; exact of_decide_eq_false hlv
        have hd1 : decide (cf x1 y1 < 0) = false := decide_eq_false hv1
        clear hx1 hy1
        clear HX hlv hy
        go_wp2_with fail
        go_quiet_grown (first | (go_at_fn g; refine Calls.grown_of (hc1 _ _)))
        have S2 : Aside (SWK enc k w0 blk off d (grow (wr.drewN nq) osq)) := S1.out.grown nq osq
        clear l1a l1b hc1 S1
        generalize grow (wr.drewN nq) osq = w2 at S2 ⊢
        clear nq osq
        go_wp2
        go_roundw
        case rel => exact ⟨h + 1, r, by go_num, rfl, by omega, by omega, hrr, S2, HX2⟩
        case measure => simp [intOf]; omega
      | true =>
        have HX2 : Hid ((s = s0 ∨ ltOf cf d[p + 1 - s]! d[s - 1]! = false) ∧ (h = mid ∨ ltOf cf d[p - h]! d[h]! = true)) := ⟨HX.out.1, .inr (by rw [← hy]; exact hlv)⟩
        have hyd : y < d.size := by omega
        have hhd : h < d.size := by omega
        have ea1 : ((y : Nat) : Int).toNat = y := by omega
        have pa1 : (0 : Int) ≤ ((y : Nat) : Int) := by omega
        have ba1 : ((y : Nat) : Int) < (d.size : Int) := by omega
        have ra1 : IntKind.i64.wrap ((y : Nat) : Int) = ((y : Nat) : Int) := by rw [IntKind.wrap_i64]; omega
        have ec1 : ((h : Nat) : Int).toNat = h := by omega
        have pc1 : (0 : Int) ≤ ((h : Nat) : Int) := by omega
        have bc1 : ((h : Nat) : Int) < (d.size : Int) := by omega
        have rc1 : IntKind.i64.wrap ((h : Nat) : Int) = ((h : Nat) : Int) := by rw [IntKind.wrap_i64]; omega
        obtain ⟨x1, hx1⟩ : ∃ x, x = d[y]! := ⟨_, rfl⟩
        obtain ⟨y1, hy1⟩ : ∃ x, x = d[h]! := ⟨_, rfl⟩
        have l1a := S1.out.ld R (by omega) P (y) (by omega)
        have l1b := S1.out.ld R (by omega) P (h) (by omega)
        rw [← hx1] at l1a
        rw [← hy1] at l1b
        have hc1 := S1.out.cmp HC.out (by omega) x1 y1
        have hv1 : cf x1 y1 < 0 := by rw [hx1, hy1]; exact of_decide_eq_true hlv
        have hd1 : decide (cf x1 y1 < 0) = true := decide_eq_true hv1
        clear hx1 hy1
        clear HX hlv hy
        go_wp2_with fail
        go_quiet_grown (first | (go_at_fn g; refine Calls.grown_of (hc1 _ _)))
        have S2 : Aside (SWK enc k w0 blk off d (grow (wr.drewN nq) osq)) := S1.out.grown nq osq
        clear l1a l1b hc1 S1
        generalize grow (wr.drewN nq) osq = w2 at S2 ⊢
        clear nq osq
        go_wp2
        go_roundw
        case rel => exact ⟨s, h, rfl, rfl, hss, by omega, by omega, S2, HX2⟩
        case measure => simp [intOf]; omega
    · have hsre : s = r := by omega
      subst hsre
      obtain ⟨e, he⟩ : ∃ e : Nat, e = p + 1 - s := ⟨_, rfl⟩
      have he1 : (mid : Int) + (m : Int) - (s : Int) = (e : Int) := by omega
      have HX3 : Hid ((s < m → m < e → ltOf cf d[e - 1]! d[s]! = true) ∧ (a < s → e < b → ltOf cf d[e]! d[s - 1]! = false)) := by
        refine ⟨fun q1 q2 => ?_, fun q1 q2 => ?_⟩
        · rcases HX.out.2 with q | q
          · exfalso; omega
          · rw [show e - 1 = p - s by omega]; exact q
        · rcases HX.out.1 with q | q
          · exfalso; omega
          · rw [he]; exact q
      clear HX hlt he
      by_cases k1 : s = mid
      · have k1a : s ≤ mid := by omega
        have k1b : mid ≤ s := by omega
        clear k1
        have i1 : (s : Int) < (m : Int) := by omega
        have i2 : ¬ (m : Int) < (e : Int) := by omega
        have i3 : (a : Int) < (s : Int) := by omega
        have i4 : ¬ (s : Int) < (mid : Int) := by omega
        have i5 : (mid : Int) < (e : Int) := by omega
        have i6 : (e : Int) < (b : Int) := by omega
        obtain ⟨d1, hd1⟩ : ∃ d1, d1 = d := ⟨_, rfl⟩
        have HR : Hid (Rot s m e d d1) := by rw [hd1]; exact rot_none d s m e (by omega) (by omega) (by omega)
        have S2 : Aside (SWK enc k w0 blk off d1 wr) := by rw [hd1]; exact S1
        have hs1 : d1.size = d.size := by rw [hd1]
        clear hd1 S1
        have HP : Hid (SortedIn (ltOf cf) a s d1 ∧ SortedIn (ltOf cf) s mid d1 ∧ SortedIn (ltOf cf) mid e d1 ∧ SortedIn (ltOf cf) e b d1) := merge_parts d d1 a m b s e mid (by omega) (by omega) (by omega) (by omega) (by omega) HA.out HB.out HR.out
        obtain ⟨d2, hd2⟩ : ∃ d2, d2 = d1 := ⟨_, rfl⟩
        have HGL : Hid (Good (ltOf cf) key a mid d1 d2) := by
          rw [hd2]
          apply good_self
          rcases Nat.lt_or_ge a s with q | q
          · have : s = mid := by omega
            subst this; exact HP.out.1
          · have : a = s := by omega
            subst this; exact HP.out.2.1
        have S3 : Aside (SWK enc k w0 blk off d2 wr) := by rw [hd2]; exact S2
        have hs2 : d2.size = d.size := by rw [hd2]; exact hs1
        have HP2 : Hid (SortedIn (ltOf cf) mid e d2 ∧ SortedIn (ltOf cf) e b d2) := by rw [hd2]; exact HP.out.2.2
        clear hd2 S2
        have c3 := HIH.out mid e b d2 wr (by omega) (by omega) S3.out (by omega) (by omega) (by omega) HP2.out.1 HP2.out.2
        rw [hs2] at c3
        clear S3
        go_wp2_with fail
        refine c3.mono ?_
        rintro ex3 w4 ⟨rfl, d3, hG, hS4⟩
        have HGR : Hid (Good (ltOf cf) key mid b d2 d3) := hG
        have S4 : Aside (SWK enc k w0 blk off d3 w4) := hS4
        clear hG hS4 c3
        go_wp2_with fail
        go_end0
        exact ⟨rfl, _, merge_gen hS HKEY.out d d1 d2 d3 a m b s e mid (by omega) (by omega) (by omega) (by omega) hb (by omega) HA.out HB.out HR.out HX3.out.1 HX3.out.2 HGL.out HGR.out, S4.out⟩
      · by_cases k2 : s = a
        · have k2a : s ≤ a := by omega
          have k2b : a ≤ s := by omega
          clear k2
          have i1 : (s : Int) < (m : Int) := by omega
          have i2 : (m : Int) < (e : Int) := by omega
          have i3 : ¬ (a : Int) < (s : Int) := by omega
          have i5 : (mid : Int) < (e : Int) := by omega
          have i6 : ¬ (e : Int) < (b : Int) := by omega
          have C1 : s < m ∧ m < e := ⟨by omega, by omega⟩
          go_wp2_with fail
          refine (rotate_any HSP.out F54 F53 enc (.func (.func g) #[] cb) blk off cap s m e d0 d w0 wr R hs S1.out C1.1 C1.2 (by omega) hsz).mono ?_
          rintro ex w2 ⟨rfl, d1, hR, hS2⟩
          have HR : Hid (Rot s m e d d1) := hR
          have S2 : Aside (SWK enc k w0 blk off d1 w2) := hS2
          have hs1 : d1.size = d.size := hR.1
          clear hR hS2 S1
          have HP : Hid (SortedIn (ltOf cf) a s d1 ∧ SortedIn (ltOf cf) s mid d1 ∧ SortedIn (ltOf cf) mid e d1 ∧ SortedIn (ltOf cf) e b d1) := merge_parts d d1 a m b s e mid (by omega) (by omega) (by omega) (by omega) (by omega) HA.out HB.out HR.out
          obtain ⟨d2, hd2⟩ : ∃ d2, d2 = d1 := ⟨_, rfl⟩
          have HGL : Hid (Good (ltOf cf) key a mid d1 d2) := by
            rw [hd2]
            apply good_self
            rcases Nat.lt_or_ge a s with q | q
            · have : s = mid := by omega
              subst this; exact HP.out.1
            · have : a = s := by omega
              subst this; exact HP.out.2.1
          have S3 : Aside (SWK enc k w0 blk off d2 w2) := by rw [hd2]; exact S2
          have hs2 : d2.size = d.size := by rw [hd2]; exact hs1
          have HP2 : Hid (SortedIn (ltOf cf) mid e d2 ∧ SortedIn (ltOf cf) e b d2) := by rw [hd2]; exact HP.out.2.2
          clear hd2 S2
          obtain ⟨d3, hd3⟩ : ∃ d3, d3 = d2 := ⟨_, rfl⟩
          have HGR : Hid (Good (ltOf cf) key mid b d2 d3) := by
            rw [hd3]
            apply good_self
            rcases Nat.lt_or_ge mid e with q | q
            · have : e = b := by omega
              subst this; exact HP2.out.1
            · have : mid = e := by omega
              subst this; exact HP2.out.2
          have S4 : Aside (SWK enc k w0 blk off d3 w2) := by rw [hd3]; exact S3
          clear hd3 S3
          go_wp2_with fail
          go_end0
          exact ⟨rfl, _, merge_gen hS HKEY.out d d1 d2 d3 a m b s e mid (by omega) (by omega) (by omega) (by omega) hb (by omega) HA.out HB.out HR.out HX3.out.1 HX3.out.2 HGL.out HGR.out, S4.out⟩
        · by_cases k3 : e = b
          · have k3a : e ≤ b := by omega
            have k3b : b ≤ e := by omega
            clear k3
            have i1 : (s : Int) < (m : Int) := by omega
            have i2 : (m : Int) < (e : Int) := by omega
            have i3 : (a : Int) < (s : Int) := by omega
            have i4 : (s : Int) < (mid : Int) := by omega
            have i5 : (mid : Int) < (e : Int) := by omega
            have i6 : ¬ (e : Int) < (b : Int) := by omega
            have C1 : s < m ∧ m < e := ⟨by omega, by omega⟩
            go_wp2_with fail
            refine (rotate_any HSP.out F54 F53 enc (.func (.func g) #[] cb) blk off cap s m e d0 d w0 wr R hs S1.out C1.1 C1.2 (by omega) hsz).mono ?_
            rintro ex w2 ⟨rfl, d1, hR, hS2⟩
            have HR : Hid (Rot s m e d d1) := hR
            have S2 : Aside (SWK enc k w0 blk off d1 w2) := hS2
            have hs1 : d1.size = d.size := hR.1
            clear hR hS2 S1
            have HP : Hid (SortedIn (ltOf cf) a s d1 ∧ SortedIn (ltOf cf) s mid d1 ∧ SortedIn (ltOf cf) mid e d1 ∧ SortedIn (ltOf cf) e b d1) := merge_parts d d1 a m b s e mid (by omega) (by omega) (by omega) (by omega) (by omega) HA.out HB.out HR.out
            have c2 := HIH.out a s mid d1 w2 (by omega) (by omega) S2.out (by omega) (by omega) (by omega) HP.out.1 HP.out.2.1
            rw [hs1] at c2
            clear S2
            go_wp2_with fail
            refine c2.mono ?_
            rintro ex2 w3 ⟨rfl, d2, hG, hS3⟩
            have HGL : Hid (Good (ltOf cf) key a mid d1 d2) := hG
            have S3 : Aside (SWK enc k w0 blk off d2 w3) := hS3
            have hs2 : d2.size = d.size := hG.1.1.trans hs1
            have hout : ∀ t, mid ≤ t → d2[t]! = d1[t]! := fun t ht => hG.1.2.1 t (.inr ht)
            have HP2 : Hid (SortedIn (ltOf cf) mid e d2 ∧ SortedIn (ltOf cf) e b d2) := ⟨fun p q p1 p2 q1 => by rw [hout p (by omega), hout q (by omega)]; exact HP.out.2.2.1 p q p1 p2 q1, fun p q p1 p2 q1 => by rw [hout p (by omega), hout q (by omega)]; exact HP.out.2.2.2 p q p1 p2 q1⟩
            clear hG hS3 hout c2
            obtain ⟨d3, hd3⟩ : ∃ d3, d3 = d2 := ⟨_, rfl⟩
            have HGR : Hid (Good (ltOf cf) key mid b d2 d3) := by
              rw [hd3]
              apply good_self
              rcases Nat.lt_or_ge mid e with q | q
              · have : e = b := by omega
                subst this; exact HP2.out.1
              · have : mid = e := by omega
                subst this; exact HP2.out.2
            have S4 : Aside (SWK enc k w0 blk off d3 w3) := by rw [hd3]; exact S3
            clear hd3 S3
            go_wp2_with fail
            go_end0
            exact ⟨rfl, _, merge_gen hS HKEY.out d d1 d2 d3 a m b s e mid (by omega) (by omega) (by omega) (by omega) hb (by omega) HA.out HB.out HR.out HX3.out.1 HX3.out.2 HGL.out HGR.out, S4.out⟩
          · have i1 : (s : Int) < (m : Int) := by omega
            have i2 : (m : Int) < (e : Int) := by omega
            have i3 : (a : Int) < (s : Int) := by omega
            have i4 : (s : Int) < (mid : Int) := by omega
            have i5 : (mid : Int) < (e : Int) := by omega
            have i6 : (e : Int) < (b : Int) := by omega
            have C1 : s < m ∧ m < e := ⟨by omega, by omega⟩
            go_wp2_with fail
            refine (rotate_any HSP.out F54 F53 enc (.func (.func g) #[] cb) blk off cap s m e d0 d w0 wr R hs S1.out C1.1 C1.2 (by omega) hsz).mono ?_
            rintro ex w2 ⟨rfl, d1, hR, hS2⟩
            have HR : Hid (Rot s m e d d1) := hR
            have S2 : Aside (SWK enc k w0 blk off d1 w2) := hS2
            have hs1 : d1.size = d.size := hR.1
            clear hR hS2 S1
            have HP : Hid (SortedIn (ltOf cf) a s d1 ∧ SortedIn (ltOf cf) s mid d1 ∧ SortedIn (ltOf cf) mid e d1 ∧ SortedIn (ltOf cf) e b d1) := merge_parts d d1 a m b s e mid (by omega) (by omega) (by omega) (by omega) (by omega) HA.out HB.out HR.out
            have c2 := HIH.out a s mid d1 w2 (by omega) (by omega) S2.out (by omega) (by omega) (by omega) HP.out.1 HP.out.2.1
            rw [hs1] at c2
            clear S2
            go_wp2_with fail
            refine c2.mono ?_
            rintro ex2 w3 ⟨rfl, d2, hG, hS3⟩
            have HGL : Hid (Good (ltOf cf) key a mid d1 d2) := hG
            have S3 : Aside (SWK enc k w0 blk off d2 w3) := hS3
            have hs2 : d2.size = d.size := hG.1.1.trans hs1
            have hout : ∀ t, mid ≤ t → d2[t]! = d1[t]! := fun t ht => hG.1.2.1 t (.inr ht)
            have HP2 : Hid (SortedIn (ltOf cf) mid e d2 ∧ SortedIn (ltOf cf) e b d2) := ⟨fun p q p1 p2 q1 => by rw [hout p (by omega), hout q (by omega)]; exact HP.out.2.2.1 p q p1 p2 q1, fun p q p1 p2 q1 => by rw [hout p (by omega), hout q (by omega)]; exact HP.out.2.2.2 p q p1 p2 q1⟩
            clear hG hS3 hout c2
            have c3 := HIH.out mid e b d2 w3 (by omega) (by omega) S3.out (by omega) (by omega) (by omega) HP2.out.1 HP2.out.2
            rw [hs2] at c3
            clear S3
            go_wp2_with fail
            refine c3.mono ?_
            rintro ex3 w4 ⟨rfl, d3, hG, hS4⟩
            have HGR : Hid (Good (ltOf cf) key mid b d2 d3) := hG
            have S4 : Aside (SWK enc k w0 blk off d3 w4) := hS4
            clear hG hS4 c3
            go_wp2_with fail
            go_end0
            exact ⟨rfl, _, merge_gen hS HKEY.out d d1 d2 d3 a m b s e mid (by omega) (by omega) (by omega) (by omega) hb (by omega) HA.out HB.out HR.out HX3.out.1 HX3.out.2 HGL.out HGR.out, S4.out⟩
end Go.Proofs.Qxb6600238a
