import Derived.Test.Qxb6000456aTop
import Derived.Deep.DeepCutAuto
namespace Go.Proofs.Qxb6000456a
open Go.RowKit
set_option linter.unusedVariables false
set_option linter.unusedSimpArgs false

set_option maxHeartbeats 400000 in
theorem bytes15_yes (x : S4) (l m : Int) (s : ByteArray) (hs : s.size ≤ 1048576) (w : World) :
    Calls Try.prog 15 #[.agg #[.int .u64 x.a, .int .u64 x.b, .int .u64 x.c, .int .u64 x.d], .int .i64 l, .int .i64 m, .string s] w fun e w' => e = .returned (.bool true) ∧ w' = w.alloc (.cells #[.int .u64 x.a, .int .u64 x.b, .int .u64 x.c, .int .u64 x.d] 32) := by
  go_enter Try.func15, Try.ntmps15
  go_wp2
  go_ret
  exact ⟨rfl, rfl⟩
set_option maxHeartbeats 400000 in
theorem bytes15_no (x : S4) (l m : Int) (s : ByteArray) (hs : 1048576 < s.size) (hm : s.size ≤ 9223372036854775807) (w : World) :
    Calls Try.prog 15 #[.agg #[.int .u64 x.a, .int .u64 x.b, .int .u64 x.c, .int .u64 x.d], .int .i64 l, .int .i64 m, .string s] w fun e w' => e = .returned (.bool false) ∧ w' = w.alloc (.cells #[.int .u64 x.a, .int .u64 x.b, .int .u64 x.c, .int .u64 x.d] 32) := by
  go_enter Try.func15, Try.ntmps15
  go_wp2
  go_ret
  exact ⟨rfl, rfl⟩

/-- The program as it is made: p, then m. -/
theorem emSt_new {w : World} {p m : Nat} (h1 : w.heap[p]? = some (.cells #[.slice none 0 0, .slice none 0 0] 60 (0, 0))) (h2 : w.heap[m]? = some (.map #[] 0)) (hpm : p ≠ m) : EmAt w p m none 0 none 0 [] [] := by
  refine ⟨h1, World.ownsRow_nil _ _ _ _, World.ownsRow_nil _ _ _ _, ⟨#[], 0, h2, rfl⟩, hpm, ?_, ?_, ?_, ?_, ?_, List.nodup_nil, ?_⟩ <;> simp [ownOf]

theorem emF_none (p m k : Nat) (h : emF p m none none k) : k = p ∨ k = m := by
  rcases h with h | h | h | h
  · exact .inl h
  · exact .inr h
  · simp [ownOf] at h
  · simp [ownOf] at h

def wantB (x : S4) (l : Nat) (m : Int) (u : List UInt8) : Prop := l ≤ u.length ∧ (m = -1 ∨ (u.length : Int) ≤ m) ∧ ∀ c ∈ u, x.has c = true

theorem rbc_law (x : S4) (l : Nat) (m : Int) (hm : m = -1 ∨ (l : Int) ≤ m) (u : List UInt8) :
    Acc (((byteG x).repeat ⟨[], []⟩ l m).P ++ [⟨3, 0, 0⟩]) (hasOf ((byteG x).repeat ⟨[], []⟩ l m).L) 0 u ↔ wantB x l m u := by
  rw [repeat_acc (byteG_recog x) l m hm u]
  unfold wantB
  constructor
  · rintro ⟨r, h1, h2, h3⟩
    obtain ⟨h4, h5⟩ := (pow_byte x r u).1 h3
    subst h4
    exact ⟨h1, h2, h5⟩
  · rintro ⟨h1, h2, h3⟩
    exact ⟨u.length, h1, h2, (pow_byte x _ u).2 ⟨rfl, h3⟩⟩

def want0 (l : Nat) (m : Int) (n : Nat) : Bool := decide (l ≤ n ∧ (m = -1 ∨ (n : Int) ≤ m))
def wantTo (x : S4) (l : Nat) (m : Int) (u : List UInt8) (k : Nat) : Bool := want0 l m u.length && (u.take k).all x.has
theorem wantTo_step {x : S4} {l : Nat} {m : Int} {u : List UInt8} {k : Nat} (h : k < u.length) (hw : wantTo x l m u k = true) : wantTo x l m u (k + 1) = x.has u[k] := by
  unfold wantTo at *
  simp only [Bool.and_eq_true] at hw
  rw [List.take_succ_eq_append_getElem h, List.all_append, hw.1, hw.2]
  simp
theorem wantTo_end {x : S4} {l : Nat} {m : Int} {u : List UInt8} {k : Nat} (h : u.length ≤ k ∨ wantTo x l m u k = false) : wantTo x l m u k = true ↔ wantB x l m u := by
  have h0 : wantB x l m u ↔ want0 l m u.length = true ∧ u.all x.has = true := by
    unfold wantB want0
    simp [and_assoc]
  rw [h0]
  rcases h with h | h
  · unfold wantTo
    rw [List.take_of_length_le h]
    simp
  · rw [h]
    constructor
    · intro h; cases h
    · rintro ⟨h1, h2⟩
      unfold wantTo at h
      rw [h1] at h
      have h3 : (u.take k).all x.has = true := by
        rw [List.all_eq_true] at h2 ⊢
        exact fun c hc => h2 c (List.mem_of_mem_take hc)
      rw [h3] at h
      cases h

theorem inSet_kept (x : S4) (c : Nat) (hc : c < 256) (w : World) :
    Calls Try.prog 21 #[.agg #[.int .u64 x.a, .int .u64 x.b, .int .u64 x.c, .int .u64 x.d], .int .u8 c] w fun e w' => e = .returned (.bool (inB (x.word (c / 64)) c)) ∧ Kept (fun _ => False) w w' :=
  (inSet_any x c hc w).mono fun e w' ⟨a, b⟩ => ⟨a, by rw [b]; exact (Kept.refl _ _).alloc _⟩

/-- The set's own box. -/
def boxCells (x : S4) : Array Value := #[.int .u64 x.a, .int .u64 x.b, .int .u64 x.c, .int .u64 x.d]

theorem box_cells {w : World} {b : Nat} {x : S4} (h : w.heap[b]? = some (.cells (boxCells x) 32 (0, 0))) : w.cell? ⟨b, 0, none⟩ = some (.int .u64 x.a) ∧ w.cell? ⟨b, 1, none⟩ = some (.int .u64 x.b) ∧ w.cell? ⟨b, 2, none⟩ = some (.int .u64 x.c) ∧ w.cell? ⟨b, 3, none⟩ = some (.int .u64 x.d) := by
  refine ⟨?_, ?_, ?_, ?_⟩ <;> (rw [cell_of_heap h]; rfl)

set_option maxHeartbeats 2000000 in
set_option maxRecDepth 100000 in
theorem rbc_main (x : S4) (hx : x.Wf) (l : Nat) (m : Int) (s : ByteArray) (hs : s.size ≤ 65536) (hl : l ≤ 65536) (hm1 : -1 ≤ m) (hm2 : m ≤ 65536) (hm : m = -1 ∨ (l : Int) ≤ m) (w : World) :
    Calls Try.prog 5 #[.agg #[.int .u64 x.a, .int .u64 x.b, .int .u64 x.c, .int .u64 x.d], .int .i64 l, .int .i64 m, .string s] w fun e w' => e = .returned (.bool true) ∧ Below w.heap.size w w' := by
  have Hm : Hid (m = -1 ∨ (l : Int) ≤ m) := hm
  clear hm
  go_enter Try.func5, Try.ntmps5
  go_wp2_with fail
  refine (bytes15_yes x _ _ s (by omega) _).mono ?_
  rintro e w1 ⟨rfl, hw1⟩
  have K1 : Kept (fun _ => False) w w1 := by rw [hw1]; exact ((Kept.refl _ w).alloc _).alloc _
  have X1 : w1.heap[w.heap.size]? = some (.cells (boxCells x) 32 (0, 0)) := by rw [hw1]; exact ((Kept.refl (fun _ => False) _).alloc _).heap (heap_alloc_new w _) (fun h => h)
  clear hw1
  go_upto_region 9 with fail
  go_cut [40] (fun v w' => v = .bool false ∧ w' = w1)
  case first =>
    rcases Hm.out with h | h
    · subst h
      go_wp2_with fail
      go_meet
      case rel => exact ⟨rfl, rfl⟩
    · have h1 : (m != -1) = true := by simp; omega
      go_wp2_with fail
      go_meet
      case rel => exact ⟨by simp; omega, rfl⟩
  case rest =>
    obtain ⟨rfl, rfl⟩ := hcut
    go_wp2_with fail
    refine (newProgram_any _).mono ?_
    rintro e w2 ⟨rfl, hw2⟩
    obtain ⟨p, hp⟩ : ∃ p, p = wc.heap.size := ⟨_, rfl⟩
    rw [← hp]
    have K2 : Kept (fun _ => False) wc w2 := by rw [hw2]; exact (Kept.refl _ _).alloc _
    have P2 : w2.heap[p]? = some (.cells #[.slice none 0 0, .slice none 0 0] 60 (0, 0)) := by rw [hw2, hp]; exact heap_alloc_new wc _
    have hpw : w.heap.size < p := by have := lt_of_block X1; omega
    clear hw2 hp
    go_wp2_with fail
    refine (newSets_any _).mono ?_
    rintro e w3 ⟨rfl, hw3⟩
    obtain ⟨mm, hmm⟩ : ∃ mm, mm = w2.heap.size := ⟨_, rfl⟩
    rw [← hmm]
    have K3 : Kept (fun _ => False) w2 w3 := by rw [hw3]; exact (Kept.refl _ _).alloc _
    have M3 : w3.heap[mm]? = some (.map #[] 0) := by rw [hw3, hmm]; exact heap_alloc_new w2 _
    have hpm : p ≠ mm := by have := lt_of_block P2; omega
    have hmw : w.heap.size < mm := by have := lt_of_block X1; have := K2.size; omega
    clear hw3 hmm
    have P3 := K3.heap P2 (fun h => h)
    have X3 := (K2.trans K3 (fun _ _ h => h)).heap X1 (fun h => h)
    obtain ⟨x0, x1, x2, x3⟩ := box_cells X3
    have K13 : Kept (fun _ => False) w w3 := (K1.trans K2 (fun _ _ h => h)).trans K3 (fun _ _ h => h)
    clear K1 K2 K3 P2 X1
    go_wp2_with fail
    refine (zzByte_any x _).mono ?_
    rintro e w4 ⟨rfl, hw4⟩
    obtain ⟨b, hb⟩ : ∃ b, b = w3.heap.size + 1 := ⟨_, rfl⟩
    rw [← hb]
    have K4 : Kept (fun _ => False) w3 w4 := by rw [hw4]; exact ((Kept.refl _ _).alloc _).alloc _
    have B4 : ByteNode w4 b x := by
      rw [hw4, hb]
      have := heap_alloc_new (w3.alloc (.cells #[.int .u64 x.a, .int .u64 x.b, .int .u64 x.c, .int .u64 x.d] 32)) (.cells (byteCells x) 56)
      simpa [ByteNode, byteCells] using this
    clear hw4
    have P4 := K4.heap P3 (fun h => h)
    have M4 := K4.heap M3 (fun h => h)
    have X4 := K4.heap X3 (fun h => h)
    have hbp : ¬ emF p mm none none b := by
      intro h
      have h1 := lt_of_block P3
      have h2 := lt_of_block M3
      rcases emF_none _ _ _ h with h | h <;> omega
    have E4 := emSt_new P4 M4 hpm
    have K14 : Kept (fun _ => False) w w4 := K13.trans K4 (fun _ _ h => h)
    have hsz : (⟨[], []⟩ : St).P.length + l * 1 + (if m = -1 then 1 + 2 else (m - l).toNat * (1 + 1)) ≤ 4194304 := by
      simp only [List.length_nil]
      split <;> omega
    have hok : ((byteG x).repeat ⟨[], []⟩ l m).Ok := repeat_ok (fun i hi => by cases hi) (byteG_good x) l m
    have hlen := repeat_length (byteG_sized x) ⟨[], []⟩ l m
    have hset := repeat_sets (byteG_sized x) ⟨[], []⟩ (Nat.le_refl _) l m
    have hlen2 : ((byteG x).repeat ⟨[], []⟩ l m).P.length ≤ 200000 := by
      rw [hlen]
      simp only [List.length_nil]
      split <;> omega
    have HLaw : Hid (∀ u, Acc (((byteG x).repeat ⟨[], []⟩ l m).P ++ [⟨3, 0, 0⟩]) (hasOf ((byteG x).repeat ⟨[], []⟩ l m).L) 0 u ↔ wantB x l m u) := rbc_law x l m Hm.out
    have HC : Hid (Calls Try.prog 32 #[.pointer (some ⟨p, 0, none⟩), .pointer (some ⟨b, 0, none⟩), .int .i64 l, .int .i64 m, .map (some mm)] w4 fun e w' => e = .returned (.tuple #[]) ∧ EmSt p mm w4 none none w' ((byteG x).repeat ⟨[], []⟩ l m)) :=
      emitRepeat_any p mm b (byteG x) 1 _ _ (bytePart b x hx) l m hl hm1 hm2 Hm.out ⟨[], []⟩ (Nat.le_refl _) hsz none 0 none 0 w4 E4 B4 (fun k hk => by subst hk; exact hbp)
    have HX4 : Hid (w4.heap[w.heap.size]? = some (.cells (boxCells x) 32 (0, 0))) := X4
    have hBp : ¬ emF p mm none none w.heap.size := by
      intro h
      rcases emF_none _ _ _ h with h | h <;> omega
    clear hb K4 B4 P3 M3 P4 M4 X3 X4 E4 hsz hlen K13 x0 x1 x2 x3
    generalize (byteG x).repeat ⟨[], []⟩ l m = st at *
    go_wp2_with fail
    refine (zzEmitRepeat_any p b mm l m w4 (fun w' => EmSt p mm w4 none none w' st) HC.out).mono ?_
    rintro e w5 ⟨rfl, S5⟩
    have HS5 : Hid (EmSt p mm w4 none none w5 st) := S5
    clear S5
    go_wp2_with fail
    refine (endMatch_any p mm w4 none none st (by omega) w5 HS5.out).mono ?_
    rintro e w6 ⟨rfl, S6⟩
    have HS6 : Hid (EmSt p mm w4 none none w6 (st.push ⟨3, 0, 0⟩)) := S6
    have K46 : Kept (emF p mm none none) w4 w6 := by
      obtain ⟨_, _, _, _, _, T⟩ := S6
      exact T.kept
    clear S6 HS5 HC
    have K16 : Kept (fun _ => False) w w6 := K14.trans K46 (fun i hi h => by rcases emF_none _ _ _ h with h | h <;> omega)
    have X6 : w6.heap[w.heap.size]? = some (.cells (boxCells x) 32 (0, 0)) := K46.heap HX4.out hBp
    clear K46 K14 HX4
    go_upto_region 15 with fail
    go_cut [11] (fun v w' => v = .bool (want0 l m s.size) ∧ w' = w6)
    case first =>
      by_cases h1 : l ≤ s.size
      · by_cases h2 : m = -1
        · have h2' : (m == -1) = true := by simpa using h2
          have hw0 : want0 l m s.size = true := by simp [want0, h1, h2]
          clear h2
          go_wp2_with fail
          go_meet
          case rel => exact ⟨by rw [hw0], rfl⟩
        · have h2' : (m == -1) = false := by simpa using h2
          by_cases h3 : (s.size : Int) ≤ m
          · have hw0 : want0 l m s.size = true := by simp [want0, h1, h3]
            go_wp2_with fail
            go_meet
            case rel => exact ⟨by rw [hw0], rfl⟩
          · have hw0 : want0 l m s.size = false := by simp [want0, h2]; omega
            have h3' : decide ((s.size : Int) ≤ m) = false := by simpa using h3
            go_wp2_with fail
            go_meet
            case rel => exact ⟨by rw [hw0], rfl⟩
      · have hw0 : want0 l m s.size = false := by simp [want0]; omega
        have h1' : decide ((l : Int) ≤ (s.size : Int)) = false := by simp; omega
        go_wp2_with fail
        go_meet
        case rel => exact ⟨by rw [hw0], rfl⟩
    case rest =>
      obtain ⟨rfl, rfl⟩ := hcut
      have hul : s.data.toList.length = s.size := by simp
      have Hw0 : Hid (wantTo x l m s.data.toList 0 = want0 l m s.size) := by simp [Hid, wantTo]
      go_wp2_with fail
      go_loopw [11, 12] (fun v i wq => ∃ k : Nat, k ≤ s.size ∧ i = .int .i64 k ∧ v = .bool (wantTo x l m s.data.toList k) ∧ Kept (fun _ => False) wc wq) (fun _ i _ => s.size - (intOf i).toNat)
      case atStart => exact ⟨0, Nat.zero_le _, rfl, by rw [Hw0.out], Kept.refl _ _⟩
      case round =>
        obtain ⟨k, hk, rfl, rfl, Kq⟩ := hrel
        have Xq := Kq.heap X6 (fun h => h)
        obtain ⟨x0, x1, x2, x3⟩ := box_cells Xq
        by_cases hlt : k < s.size
        · cases hw : wantTo x l m s.data.toList k with
          | true =>
            have HW : Hid (wantTo x l m s.data.toList (k + 1) = x.has (s[k]'hlt)) := wantTo_step (by rw [hul]; exact hlt) hw
            have hc256 : (s[k]'hlt).toNat < 256 := UInt8.toNat_lt _
            clear hw
            go_wp2_with fail
            go_region_law (go_simp; go_at_call 21; refine (inSet_kept x _ hc256 _).mono ?_; rintro e w7 ⟨rfl, K7⟩)
            all_goals
              have HW' : Hid (wantTo x l m s.data.toList (k + 1) = inB (x.word ((s[k]'hlt).toNat / 64)) (s[k]'hlt).toNat) := HW.out
              have Kq7 : Kept (fun _ => False) wc w7 := (Kq.drew).trans K7 (fun _ _ h => h)
              cases hin : inB (x.word ((s[k]'hlt).toNat / 64)) (s[k]'hlt).toNat with
              | true =>
                have HW2 : Hid (wantTo x l m s.data.toList (k + 1) = true) := by rw [Hid, HW'.out, hin]
                clear hin K7 HW HW'
                go_wp2_with fail
                go_roundw
                case rel => exact ⟨k + 1, by omega, by go_num, by rw [HW2.out], Kq7⟩
                case measure => simp [intOf]; omega
              | false =>
                have HW2 : Hid (wantTo x l m s.data.toList (k + 1) = false) := by rw [Hid, HW'.out, hin]
                clear hin K7 HW HW'
                go_wp2_with fail
                go_roundw
                case rel => exact ⟨k + 1, by omega, by go_num, by rw [HW2.out], Kq7⟩
                case measure => simp [intOf]; omega
          | false =>
            have HE : Hid (false = true ↔ wantB x l m s.data.toList) := by
              have := wantTo_end (x := x) (l := l) (m := m) (u := s.data.toList) (k := k) (.inr hw)
              rwa [hw] at this
            clear hw
            go_wp2_with fail
            refine (zzMatches_any p s wr (fun e w' => AccPost (st.P ++ [⟨3, 0, 0⟩]) st.L s wr e w') (fun e w' h => ⟨_, h.choose_spec.1⟩) (EmSt.matches (HS6.out.still Kq) hok (by omega) (by omega) s (by unfold maxLen; omega))).mono ?_
            rintro e w8 ⟨b8, rfl, hb8, K8⟩
            have hbb : b8 = false := by
              have h1 := (hb8.trans (HLaw.out s.data.toList)).trans HE.out.symm
              cases b8 <;> simp_all
            subst hbb
            have KF : Kept (fun _ => False) w w8 := (K16.trans Kq (fun _ _ h => h)).trans K8 (fun _ _ h => h)
            clear hb8 K8 HE
            go_wp2_with fail
            go_ret
            exact ⟨rfl, KF.below (Nat.le_refl _) (fun _ _ h => h)⟩
        · cases hw : wantTo x l m s.data.toList k with
          | true =>
            have HE : Hid (true = true ↔ wantB x l m s.data.toList) := by
              have := wantTo_end (x := x) (l := l) (m := m) (u := s.data.toList) (k := k) (.inl (by omega))
              rwa [hw] at this
            clear hw
            go_wp2_with fail
            refine (zzMatches_any p s wr (fun e w' => AccPost (st.P ++ [⟨3, 0, 0⟩]) st.L s wr e w') (fun e w' h => ⟨_, h.choose_spec.1⟩) (EmSt.matches (HS6.out.still Kq) hok (by omega) (by omega) s (by unfold maxLen; omega))).mono ?_
            rintro e w8 ⟨b8, rfl, hb8, K8⟩
            have hbb : b8 = true := by
              have h1 := (hb8.trans (HLaw.out s.data.toList)).trans HE.out.symm
              cases b8 <;> simp_all
            subst hbb
            have KF : Kept (fun _ => False) w w8 := (K16.trans Kq (fun _ _ h => h)).trans K8 (fun _ _ h => h)
            clear hb8 K8 HE
            go_wp2_with fail
            go_ret
            exact ⟨rfl, KF.below (Nat.le_refl _) (fun _ _ h => h)⟩
          | false =>
            have HE : Hid (false = true ↔ wantB x l m s.data.toList) := by
              have := wantTo_end (x := x) (l := l) (m := m) (u := s.data.toList) (k := k) (.inl (by omega))
              rwa [hw] at this
            clear hw
            go_wp2_with fail
            refine (zzMatches_any p s wr (fun e w' => AccPost (st.P ++ [⟨3, 0, 0⟩]) st.L s wr e w') (fun e w' h => ⟨_, h.choose_spec.1⟩) (EmSt.matches (HS6.out.still Kq) hok (by omega) (by omega) s (by unfold maxLen; omega))).mono ?_
            rintro e w8 ⟨b8, rfl, hb8, K8⟩
            have hbb : b8 = false := by
              have h1 := (hb8.trans (HLaw.out s.data.toList)).trans HE.out.symm
              cases b8 <;> simp_all
            subst hbb
            have KF : Kept (fun _ => False) w w8 := (K16.trans Kq (fun _ _ h => h)).trans K8 (fun _ _ h => h)
            clear hb8 K8 HE
            go_wp2_with fail
            go_ret
            exact ⟨rfl, KF.below (Nat.le_refl _) (fun _ _ h => h)⟩
end Go.Proofs.Qxb6000456a
