import Derived.Test.Qxb6000456aRwLaw
import Derived.Test.Qxb6000456aComp
import Derived.Deep.DeepCutAuto
namespace Go.Proofs.Qxb6000456a
open Go.RowKit
set_option linter.unusedVariables false
set_option linter.unusedSimpArgs false

set_option maxHeartbeats 400000 in
theorem bytesRw (a s : ByteArray) (l m : Int) (ha : a.size ≤ maxLen) (hs : s.size ≤ maxLen) (w : World) :
    Calls Try.prog 22 #[.string a, .int .i64 l, .int .i64 m, .string s] w fun e w' => e = .returned (.bool (decide (a.size + s.size ≤ 1048576))) ∧ w = w' := by
  unfold maxLen at ha hs
  by_cases h1 : a.size ≤ 1048576
  · by_cases h2 : s.size ≤ 1048576
    · by_cases h3 : a.size + s.size ≤ 1048576
      · go_enter Try.func22, Try.ntmps22
        go_wp2_with fail
        go_ret
        exact ⟨by simp [h3], rfl⟩
      · go_enter Try.func22, Try.ntmps22
        go_wp2_with fail
        go_ret
        exact ⟨by simp [h3], rfl⟩
    · have h3 : ¬ a.size + s.size ≤ 1048576 := by omega
      go_enter Try.func22, Try.ntmps22
      go_wp2_with fail
      go_ret
      exact ⟨by simp [h3], rfl⟩
  · have h3 : ¬ a.size + s.size ≤ 1048576 := by omega
    go_enter Try.func22, Try.ntmps22
    go_wp2_with fail
    go_ret
    exact ⟨by simp [h3], rfl⟩

/-- The greater of the two counts. -/
def hiOf (l : Nat) (m : Int) : Int := if (l : Int) < m then m else l

/-- The matcher on a part, repeated. -/
theorem EmSt.saysRep {p mm : Nat} {w0 : World} {ai0 as0 : Option Addr} {st : St} {w : World} (W : List UInt8 → Prop) (h : EmSt p mm w0 ai0 as0 w (st.push ⟨3, 0, 0⟩)) (hok : st.Ok) (hb : st.P.length ≤ 4194000) (hL : st.L.length ≤ 4194000)
    (hW : ∀ u, Acc (st.P ++ [⟨3, 0, 0⟩]) (hasOf st.L) 0 u ↔ W u) (t : ByteArray) (ht : t.size ≤ maxLen) :
    Calls Try.prog 11 #[.pointer (some ⟨p, 0, none⟩), .string t] w fun e w' => ∃ b : Bool, e = .returned (.bool b) ∧ (b = true ↔ W t.data.toList) ∧ Kept (fun _ => False) w w' := by
  refine zzMatches_any p t w _ (fun e w' h => ⟨_, h.choose_spec.1⟩) ?_
  refine (EmSt.matches h hok (by omega) (by omega) t ht).mono ?_
  rintro e w' ⟨b, rfl, hb, hk⟩
  exact ⟨b, rfl, hb.trans (hW t.data.toList), hk⟩

theorem rw_size (n l : Nat) (m : Int) (hn : n ≤ 65536) (hl : l ≤ 65536) (hm1 : -1 ≤ m) (hm2 : m ≤ 65536) (hm : m = -1 ∨ (l : Int) ≤ m) (hhi : 0 < n → hiOf l m + 1 ≤ 1048576 / (n : Int)) :
    0 + l * n + (if m = -1 then n + 2 else (m - l).toNat * (n + 1)) ≤ 1200000 := by
  by_cases h0 : n = 0
  · subst h0
    split <;> omega
  · have h1 := hhi (by omega)
    have h2 : (hiOf l m + 1) * (n : Int) ≤ 1048576 := by
      have h3 := Int.mul_le_mul_of_nonneg_right h1 (show (0 : Int) ≤ (n : Int) by omega)
      have h4 := Int.ediv_mul_le 1048576 (show (n : Int) ≠ 0 by omega)
      omega
    rcases hm with rfl | hm
    · have e : hiOf l (-1) = l := by unfold hiOf; rw [if_neg (by omega)]
      rw [e] at h2
      rw [if_pos rfl]
      have h5 : ((l : Int) + 1) * n = ((l * n + n : Nat) : Int) := by rw [Int.add_mul]; simp
      rw [h5] at h2
      omega
    · obtain ⟨k, rfl⟩ := Int.eq_ofNat_of_zero_le (show 0 ≤ m by omega)
      have e : hiOf l (k : Int) = k := by unfold hiOf; split <;> omega
      rw [e] at h2
      rw [if_neg (by omega)]
      have h5 : ((k : Int) + 1) * n = ((k * n + n : Nat) : Int) := by rw [Int.add_mul]; simp
      rw [h5] at h2
      obtain ⟨d, rfl⟩ : ∃ d, k = l + d := ⟨k - l, by omega⟩
      have h6 : (((l + d : Nat) : Int) - l).toNat = d := by omega
      rw [h6, Nat.mul_add]
      rw [Nat.add_mul] at h2
      omega

set_option maxHeartbeats 2000000 in
set_option maxRecDepth 100000 in
theorem rw_main (a s : ByteArray) (l : Nat) (m : Int) (ha : a.size ≤ 65536) (hs : s.size ≤ 65536) (hl : l ≤ 65536) (hm1 : -1 ≤ m) (hm2 : m ≤ 65536) (hm : m = -1 ∨ (l : Int) ≤ m) (hhi : 0 < a.size → hiOf l m + 1 ≤ 1048576 / (a.size : Int)) (w : World) :
    Calls Try.prog 6 #[.string a, .int .i64 l, .int .i64 m, .string s] w fun e w' => e = .returned (.bool true) ∧ Below w.heap.size w w' := by
  have Hm : Hid (m = -1 ∨ (l : Int) ≤ m) := hm
  have Hhi : Hid (0 < a.size → hiOf l m + 1 ≤ 1048576 / (a.size : Int)) := hhi
  have hasum : a.size + s.size ≤ 1048576 := by omega
  have hh1 : 0 ≤ hiOf l m := by unfold hiOf; split <;> omega
  have hh2 : hiOf l m ≤ 65536 := by unfold hiOf; split <;> omega
  clear hm hhi
  go_enter Try.func6, Try.ntmps6
  go_wp2_with fail
  refine (bytesRw a s _ _ (by unfold maxLen; omega) (by unfold maxLen; omega) _).mono ?_
  rintro e w1 ⟨rfl, rfl⟩
  rw [decide_eq_true hasum]
  go_upto_region 9 with fail
  go_cut [47] (fun v w' => v = .bool false ∧ w = w')
  case first =>
    rcases Hm.out with h | h
    · subst h
      go_wp2_with fail
      go_meet
      case rel => exact ⟨rfl, rfl⟩
    · have h1 : (m != -1) = true := by simp; omega
      go_wp2_with fail
      go_meet
      case rel => exact ⟨by simp; omega, rfl⟩
  case rest =>
    obtain ⟨rfl, rfl⟩ := hcut
    go_upto_if 51 with fail
    go_cut [9] (fun v w' => v = .int .i64 (hiOf l m) ∧ w = w')
    case first =>
      by_cases h : (l : Int) < m
      · have e : hiOf l m = m := by unfold hiOf; rw [if_pos h]
        go_wp2_with fail
        go_meet
        case rel => exact ⟨by rw [e], rfl⟩
      · have e : hiOf l m = l := by unfold hiOf; rw [if_neg h]
        go_wp2_with fail
        go_meet
        case rel => exact ⟨by rw [e], rfl⟩
    case rest =>
      obtain ⟨rfl, rfl⟩ := hcut
      have hq : 0 < a.size → ¬ (1048576 / (a.size : Int) < hiOf l m + 1) := fun h => by have := Hhi.out h; omega
      go_upto_region 14 with fail
      go_cut [63] (fun v w' => v = .bool false ∧ w = w')
      case first =>
        by_cases h0 : 0 < a.size
        · have h1 := hq h0
          clear hq
          go_wp2_with fail
          go_meet
          case rel => exact ⟨by simp, rfl⟩
        · go_wp2_with fail
          go_meet
          case rel => exact ⟨by simp, rfl⟩
      case rest =>
        obtain ⟨rfl, rfl⟩ := hcut
        go_wp2_with fail
        refine (newProgram_any _).mono ?_
        rintro e w2 ⟨rfl, hw2⟩
        obtain ⟨p, hp⟩ : ∃ p, p = w.heap.size := ⟨_, rfl⟩
        rw [← hp]
        have K2 : Kept (fun _ => False) w w2 := by rw [hw2]; exact (Kept.refl _ _).alloc _
        have P2 : w2.heap[p]? = some (.cells #[.slice none 0 0, .slice none 0 0] 60 (0, 0)) := by rw [hw2, hp]; exact heap_alloc_new w _
        have hpw : w.heap.size ≤ p := by omega
        clear hw2 hp
        go_wp2_with fail
        refine (newSets_any _).mono ?_
        rintro e w3 ⟨rfl, hw3⟩
        obtain ⟨mm, hmm⟩ : ∃ mm, mm = w2.heap.size := ⟨_, rfl⟩
        rw [← hmm]
        have K3 : Kept (fun _ => False) w2 w3 := by rw [hw3]; exact (Kept.refl _ _).alloc _
        have M3 : w3.heap[mm]? = some (.map #[] 0) := by rw [hw3, hmm]; exact heap_alloc_new w2 _
        have hpm : p ≠ mm := by have := lt_of_block P2; omega
        have hmw : w.heap.size ≤ mm := by have := K2.size; omega
        clear hw3 hmm
        have P3 := K3.heap P2 (fun h => h)
        have K13 : Kept (fun _ => False) w w3 := K2.trans K3 (fun _ _ h => h)
        clear K2 K3 P2
        go_wp2_with fail
        refine (zzLiteral_any a (by omega) _).mono ?_
        rintro e w4 ⟨n, aa, cap, bs, rfl, L4⟩
        have P4 := L4.kept.heap P3 (fun h => h)
        have M4 := L4.kept.heap M3 (fun h => h)
        have K14 : Hid (Kept (fun _ => False) w w4) := K13.trans L4.kept (fun _ _ h => h)
        have hap : ∀ k, seqF n aa bs k → ¬ emF p mm none none k := by
          intro k hk h
          have h1 := lt_of_block P3
          have h2 := lt_of_block M3
          have h3 := L4.new k hk
          rcases emF_none _ _ _ h with h | h <;> omega
        obtain ⟨xs, hxs⟩ : ∃ xs, xs = a.data.toList.map single := ⟨_, rfl⟩
        have hxl : xs.length = a.size := by rw [hxs]; simp
        have hxw : ∀ x ∈ xs, x.Wf := by rw [hxs]; exact litWf _
        have hsz : (⟨[], []⟩ : St).P.length + l * a.size + (if m = -1 then a.size + 2 else (m - l).toNat * (a.size + 1)) ≤ 1200000 := by
          simp only [List.length_nil]
          exact rw_size a.size l m ha hl hm1 hm2 Hm.out Hhi.out
        have HC : Hid (Calls Try.prog 32 #[.pointer (some ⟨p, 0, none⟩), .pointer (some ⟨n, 0, none⟩), .int .i64 l, .int .i64 m, .map (some mm)] w4 fun e w' => e = .returned (.tuple #[]) ∧ EmSt p mm w4 none none w' ((seqG xs).repeat ⟨[], []⟩ l m)) :=
          emitRepeat_any p mm n (seqG xs) xs.length _ _ (seqPart n aa cap bs xs hxw) l m hl hm1 hm2 Hm.out ⟨[], []⟩ (Nat.le_refl _) (by rw [hxl]; omega) none 0 none 0 w4 (emSt_new P4 M4 hpm) (by rw [hxs]; exact L4.sq) hap
        have hlen := repeat_length (seqG_sized xs) ⟨[], []⟩ l m
        rw [hxl] at hlen
        have hset := repeat_sets (seqG_sized xs) ⟨[], []⟩ (Nat.le_refl _) l m
        have hok : Hid (((seqG xs).repeat ⟨[], []⟩ l m).Ok) := repeat_ok (fun i hi => by cases hi) (seqG_good xs) l m
        have hW : Hid (∀ u, Acc (((seqG xs).repeat ⟨[], []⟩ l m).P ++ [⟨3, 0, 0⟩]) (hasOf ((seqG xs).repeat ⟨[], []⟩ l m).L) 0 u ↔ wordW a.data.toList l m u) := by rw [hxs]; exact rw_law a.data.toList l m Hm.out
        clear hxs hxl hxw P3 M3 P4 M4 K13 hap L4
        unfold ptrV
        generalize (seqG xs).repeat ⟨[], []⟩ l m = st at *
        have hlen2 : st.P.length ≤ 1200000 := by omega
        clear hsz hlen
        go_wp2_with fail
        refine (zzEmitRepeat_any p n mm l m w4 (fun w' => EmSt p mm w4 none none w' st) HC.out).mono ?_
        rintro e w5 ⟨rfl, S5⟩
        have HS5 : Hid (EmSt p mm w4 none none w5 st) := S5
        clear S5 HC
        go_wp2_with fail
        refine (endMatch_any p mm w4 none none st (by omega) w5 HS5.out).mono ?_
        rintro e w6 ⟨rfl, S6⟩
        have K16 : Hid (Kept (fun _ => False) w w6) := emSt_kept S6 K14.out hpw hmw
        have HS6 : Hid (EmSt p mm w4 none none w6 (st.push ⟨3, 0, 0⟩)) := S6
        have HF : Hid (∀ wq, Kept (fun _ => False) w6 wq → Calls Try.prog 11 #[.pointer (some ⟨p, 0, none⟩), .string s] wq fun e w' => ∃ b : Bool, e = .returned (.bool b) ∧ (b = true ↔ wordW a.data.toList l m s.data.toList) ∧ Kept (fun _ => False) wq w') :=
          fun wq hq => EmSt.saysRep (wordW a.data.toList l m) (HS6.out.still hq) hok.out (by omega) (by omega) hW.out s (by unfold maxLen; omega)
        clear S6 HS5 HS6 K14 hok hW hset hlen2
        have hsd : s.data.toList.length = s.size := by simp
        have had : a.data.toList.length = a.size := by simp
        by_cases h0 : a.size = 0
        · have h0' : ((a.size : Int) == 0) = true := by simp [h0]
          have HE : Hid (wordW a.data.toList l m s.data.toList ↔ s.size = 0) := by
            have e : a.data.toList = [] := List.eq_nil_of_length_eq_zero (by omega)
            rw [Hid, e, wordW_nil l m Hm.out]
            constructor
            · intro h; rw [← hsd, h]; rfl
            · intro h; exact List.eq_nil_of_length_eq_zero (by omega)
          clear h0 hsd had
          go_wp2_with fail
          refine (Calls.mono (HF.out _ (Kept.refl _ _)) ?_)
          rintro e w8 ⟨b8, rfl, hb8, K8⟩
          have KF : Below w.heap.size w w8 := (K16.out.trans K8 (fun _ _ h => h)).below (Nat.le_refl _) (fun _ _ h => h)
          by_cases h2 : s.size = 0
          · have hbb : b8 = true := (hb8.trans HE.out).2 h2
            have h2' : ((s.size : Int) == 0) = true := by rw [h2]; rfl
            subst hbb
            clear hb8 K8 HE h2
            go_wp2_with fail
            go_ret
            exact ⟨rfl, KF⟩
          · have hbb : b8 = false := by
              cases b8
              · rfl
              · exact (h2 ((hb8.trans HE.out).1 rfl)).elim
            have h2' : ((s.size : Int) == 0) = false := by rw [beq_eq_false_iff_ne]; omega
            subst hbb
            clear hb8 K8 HE h2
            go_wp2_with fail
            go_ret
            exact ⟨rfl, KF⟩
        · have h1 : 0 < a.size := by omega
          have h0' : ((a.size : Int) == 0) = false := by rw [beq_eq_false_iff_ne]; omega
          have h0n : ¬ (a.size : Int) = 0 := by omega
          by_cases hr : s.size % a.size = 0
          · have hr' : (((s.size : Int) % (a.size : Int)) == 0) = true := by
              have : (s.size : Int) % (a.size : Int) = ((s.size % a.size : Nat) : Int) := by simp
              rw [this, hr]; rfl
            obtain ⟨K, hK⟩ : ∃ K, K = s.size / a.size := ⟨_, rfl⟩
            have hKw : wrap64 ((s.size : Int) / (a.size : Int)) = (K : Int) := by
              have e : (s.size : Int) / (a.size : Int) = (K : Int) := by rw [hK]; simp
              have hle : K ≤ s.size := by rw [hK]; exact Nat.div_le_self _ _
              rw [e]
              unfold wrap64; omega
            have HKd : Hid (K = s.size / a.size) := hK
            have hle : K ≤ 65536 := Nat.le_trans (by rw [hK]; exact Nat.div_le_self _ _) hs
            clear h0 hq hK
            go_upto_region 25 with fail
            rw [hKw]
            clear hKw
            go_cut [12] (fun v w' => v = .bool (want0 l m K) ∧ w6 = w')
            case first =>
              by_cases h1 : l ≤ K
              · by_cases h2 : m = -1
                · have h2' : (m == -1) = true := by simpa using h2
                  have hw0 : want0 l m K = true := by simp [want0, h1, h2]
                  clear h2
                  go_wp2_with fail
                  go_meet
                  case rel => exact ⟨by rw [hw0], rfl⟩
                · have h2' : (m == -1) = false := by simpa using h2
                  by_cases h3 : (K : Int) ≤ m
                  · have hw0 : want0 l m K = true := by simp [want0, h1, h3]
                    go_wp2_with fail
                    go_meet
                    case rel => exact ⟨by rw [hw0], rfl⟩
                  · have hw0 : want0 l m K = false := by simp [want0, h2]; omega
                    have h3' : decide ((K : Int) ≤ m) = false := by simpa using h3
                    go_wp2_with fail
                    go_meet
                    case rel => exact ⟨by rw [hw0], rfl⟩
              · have hw0 : want0 l m K = false := by simp [want0]; omega
                have h1' : decide ((l : Int) ≤ (K : Int)) = false := by simp; omega
                go_wp2_with fail
                go_meet
                case rel => exact ⟨by rw [hw0], rfl⟩
            case rest =>
              obtain ⟨rfl, rfl⟩ := hcut
              have Hw0 : Hid (wordTo a.data.toList l m s.data.toList 0 = want0 l m K) := by rw [Hid, wordTo_zero, hsd, had, HKd.out]
              have HEnd : Hid (∀ k, k ≤ s.size → (s.size ≤ k ∨ wordTo a.data.toList l m s.data.toList k = false) → (wordTo a.data.toList l m s.data.toList k = true ↔ wordW a.data.toList l m s.data.toList)) := by
                intro k hk h
                exact wordTo_end (by omega) (by rw [hsd, had]; exact hr) (by omega) (by rw [hsd]; exact h)
              go_wp2_with fail
              go_loopw [12, 14] (fun v i wq => ∃ k : Nat, k ≤ s.size ∧ i = .int .i64 k ∧ v = .bool (wordTo a.data.toList l m s.data.toList k) ∧ Hid (Kept (fun _ => False) w6 wq)) (fun _ i _ => s.size - (intOf i).toNat)
              case atStart => exact ⟨0, Nat.zero_le _, rfl, by rw [Hw0.out], Kept.refl _ _⟩
              case round =>
                obtain ⟨k, hk, rfl, rfl, Kq⟩ := hrel
                have HEk := HEnd.out k hk
                by_cases hlt : k < s.size
                · cases hw : wordTo a.data.toList l m s.data.toList k with
                  | true =>
                    have HW : Hid (wordTo a.data.toList l m s.data.toList (k + 1) = decide (s.data.toList[k]? = a.data.toList[k % a.data.toList.length]?)) := wordTo_step hw
                    clear hw HEk
                    have hm : k % a.size < a.size := Nat.mod_lt _ h1
                    have hmi : (k : Int) % (a.size : Int) < (a.size : Int) := Int.emod_lt_of_pos _ (by omega)
                    have hmn : 0 ≤ (k : Int) % (a.size : Int) := Int.emod_nonneg _ h0n
                    have hsk : s.data.toList[k]? = some (s[k]'hlt) := by rw [List.getElem?_eq_getElem (by omega)]; rfl
                    have hak : a.data.toList[k % a.data.toList.length]? = some (a[k % a.size]'hm) := by
                      have e : k % a.data.toList.length = k % a.size := by rw [had]
                      rw [e, List.getElem?_eq_getElem (by omega)]; rfl
                    by_cases hb : s[k]'hlt = a[k % a.size]'hm
                    · have hb' : (((s[k]'hlt).toNat : Int) != ((a[k % a.size]'hm).toNat : Int)) = false := by rw [hb]; simp
                      have HW2 : Hid (wordTo a.data.toList l m s.data.toList (k + 1) = true) := by rw [Hid, HW.out, hsk, hak, hb]; simp
                      clear HW hsk hak hb
                      go_wp2_with fail
                      go_quiet (fail)
                      have Kq2 : Hid (Kept (fun _ => False) w6 (wr.drewN nq)) := Kq.out.drewN _
                      go_wp2_with fail
                      go_roundw
                      case rel => exact ⟨k + 1, by omega, by go_num, by rw [HW2.out], Kq2⟩
                      case measure => simp [intOf]; omega
                    · have hb' : (((s[k]'hlt).toNat : Int) != ((a[k % a.size]'hm).toNat : Int)) = true := by
                        rw [bne_iff_ne]
                        exact fun h => hb (UInt8.toNat.inj (by omega))
                      have HW2 : Hid (wordTo a.data.toList l m s.data.toList (k + 1) = false) := by
                        rw [Hid, HW.out, hsk, hak]; simp; exact hb
                      clear HW hsk hak hb
                      go_wp2_with fail
                      go_quiet (fail)
                      have Kq2 : Hid (Kept (fun _ => False) w6 (wr.drewN nq)) := Kq.out.drewN _
                      go_wp2_with fail
                      go_roundw
                      case rel => exact ⟨k + 1, by omega, by go_num, by rw [HW2.out], Kq2⟩
                      case measure => simp [intOf]; omega
                  | false =>
                    have HE : Hid (false = true ↔ wordW a.data.toList l m s.data.toList) := by
                      have := HEk (.inr hw)
                      rwa [hw] at this
                    clear hw HEk
                    go_wp2_with fail
                    refine (Calls.mono (HF.out _ Kq.out) ?_)
                    rintro e w8 ⟨b8, rfl, hb8, K8⟩
                    have hbb : b8 = false := by
                      have h1 := hb8.trans HE.out.symm
                      cases b8 <;> simp_all
                    subst hbb
                    have KF : Below w.heap.size w w8 := ((K16.out.trans Kq.out (fun _ _ h => h)).trans K8 (fun _ _ h => h)).below (Nat.le_refl _) (fun _ _ h => h)
                    clear hb8 K8 HE
                    go_wp2_with fail
                    go_ret
                    exact ⟨rfl, KF⟩
                · cases hw : wordTo a.data.toList l m s.data.toList k with
                  | true =>
                    have HE : Hid (true = true ↔ wordW a.data.toList l m s.data.toList) := by
                      have := HEk (.inl (by omega))
                      rwa [hw] at this
                    clear hw HEk
                    go_wp2_with fail
                    refine (Calls.mono (HF.out _ Kq.out) ?_)
                    rintro e w8 ⟨b8, rfl, hb8, K8⟩
                    have hbb : b8 = true := by
                      have h1 := hb8.trans HE.out.symm
                      cases b8 <;> simp_all
                    subst hbb
                    have KF : Below w.heap.size w w8 := ((K16.out.trans Kq.out (fun _ _ h => h)).trans K8 (fun _ _ h => h)).below (Nat.le_refl _) (fun _ _ h => h)
                    clear hb8 K8 HE
                    go_wp2_with fail
                    go_ret
                    exact ⟨rfl, KF⟩
                  | false =>
                    have HE : Hid (false = true ↔ wordW a.data.toList l m s.data.toList) := by
                      have := HEk (.inr hw)
                      rwa [hw] at this
                    clear hw HEk
                    go_wp2_with fail
                    refine (Calls.mono (HF.out _ Kq.out) ?_)
                    rintro e w8 ⟨b8, rfl, hb8, K8⟩
                    have hbb : b8 = false := by
                      have h1 := hb8.trans HE.out.symm
                      cases b8 <;> simp_all
                    subst hbb
                    have KF : Below w.heap.size w w8 := ((K16.out.trans Kq.out (fun _ _ h => h)).trans K8 (fun _ _ h => h)).below (Nat.le_refl _) (fun _ _ h => h)
                    clear hb8 K8 HE
                    go_wp2_with fail
                    go_ret
                    exact ⟨rfl, KF⟩
          · have hr' : (((s.size : Int) % (a.size : Int)) == 0) = false := by
              have : (s.size : Int) % (a.size : Int) = ((s.size % a.size : Nat) : Int) := by simp
              rw [this, beq_eq_false_iff_ne]; omega
            have HE : Hid (¬ wordW a.data.toList l m s.data.toList) := by
              rw [Hid, wordW_word _ (by omega), hsd, had]
              rintro ⟨h, _⟩; exact hr h
            clear hr h0 hq hsd had
            go_wp2_with fail
            refine (Calls.mono (HF.out _ (Kept.refl _ _)) ?_)
            rintro e w8 ⟨b8, rfl, hb8, K8⟩
            have KF : Below w.heap.size w w8 := (K16.out.trans K8 (fun _ _ h => h)).below (Nat.le_refl _) (fun _ _ h => h)
            have hbb : b8 = false := by
              cases b8
              · rfl
              · exact (HE.out (hb8.1 rfl)).elim
            subst hbb
            clear hb8 K8 HE
            go_wp2_with fail
            go_ret
            exact ⟨rfl, KF⟩
end Go.Proofs.Qxb6000456a
