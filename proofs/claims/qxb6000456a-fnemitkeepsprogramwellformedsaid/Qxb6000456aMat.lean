import Derived.Test.Qxb6000456aFol
import Derived.Deep.RegionHeld3
import Derived.Deep.DrawnRows
namespace Go.Proofs.Qxb6000456a
open Go.RowKit
set_option linter.unusedVariables false
attribute [local go_sem ↓] Go.wp_at_zero Go.wp_at_succ

/-- A set of bytes: four words. -/
structure S4 where
  a : Int
  b : Int
  c : Int
  d : Int
def S4.word (x : S4) (i : Nat) : Int := if i = 0 then x.a else if i = 1 then x.b else if i = 2 then x.c else x.d
def inB (x : Int) (c : Nat) : Bool := bits BinOp.and IntKind.u64 x (IntKind.u64.wrap (2 ^ (c % 64))) != 0
def S4.has (x : S4) (c : UInt8) : Bool := inB (x.word (c.toNat / 64)) c.toNat
def scells (x : S4) : List Value := [.int .u64 x.a, .int .u64 x.b, .int .u64 x.c, .int .u64 x.d]
def srow (l : List S4) : List Value := l.flatMap scells
def hasOf (l : List S4) (k : Nat) (c : UInt8) : Bool := match l[k]? with
  | some x => x.has c
  | none => false

theorem srow_length (P : List S4) : (srow P).length = P.length * 4 := by
  induction P with
  | nil => rfl
  | cons a l ih => simp [srow, scells] at *; omega
theorem srow_append (P Q : List S4) : srow (P ++ Q) = srow P ++ srow Q := by simp [srow]
theorem srow_get {P : List S4} {k : Nat} {i : S4} (h : P[k]? = some i) (j : Nat) (hj : j < 4) : (srow P)[k * 4 + j]? = (scells i)[j]? := by
  induction P generalizing k with
  | nil => simp at h
  | cons a l ih =>
    have e : srow (a :: l) = scells a ++ srow l := rfl
    cases k with
    | zero =>
      simp at h
      subst h
      rw [e, Nat.zero_mul, Nat.zero_add, List.getElem?_append_left (by simp [scells]; omega)]
    | succ k =>
      simp at h
      rw [e, List.getElem?_append_right (by simp [scells]; omega)]
      have := ih h
      have e2 : (k + 1) * 4 + j - (scells a).length = k * 4 + j := by simp [scells]; omega
      rw [e2]
      exact this
theorem scells_word (x : S4) (i : Nat) (hi : i < 4) : (scells x)[i]? = some (.int .u64 (x.word i)) := by
  match i, hi with
  | 0, _ => rfl
  | 1, _ => rfl
  | 2, _ => rfl
  | 3, _ => rfl

set_option maxHeartbeats 400000 in
theorem has_any (b o : Nat) (x : Int) (c : Nat) (hc : c < 256) (w : World)
    (h0 : w.cell? ⟨b, o + c / 64, none⟩ = some (.int .u64 x)) :
    Calls Try.prog 37 #[.pointer (some ⟨b, o, none⟩), .int .u8 c] w fun e w' => e = .returned (.bool (inB x c)) ∧ w' = w := by
  go_enter Try.func37, Try.ntmps37
  go_wp2
  go_ret
  exact ⟨rfl, rfl⟩

/-- Where the matcher stands: two sets of threads and a stack, all of its own making. -/
structure MW (w : World) (N : Nat) (wr : World) (ta gda gaa tb gdb gab : Nat) (Da Aa Db Ab : List Nat) (v : Value) : Prop where
  kept : Kept (fun _ => False) w wr
  tha : ThAt wr ta gda gaa N Da Aa
  thb : ThAt wr tb gdb gab N Db Ab
  st : wr.ownsRow 0 21 1 v 0 []
  na : ∀ k, thF ta gda gaa k → w.heap.size ≤ k
  nb : ∀ k, thF tb gdb gab k → w.heap.size ≤ k
  nv : ∀ g, v.ownBlock = some g → w.heap.size ≤ g ∧ ¬ thF ta gda gaa g ∧ ¬ thF tb gdb gab g
  ab : ∀ k, thF ta gda gaa k → ¬ thF tb gdb gab k

theorem MW.swap {w : World} {N : Nat} {wr : World} {ta gda gaa tb gdb gab : Nat} {Da Aa Db Ab : List Nat} {v : Value} (h : MW w N wr ta gda gaa tb gdb gab Da Aa Db Ab v) : MW w N wr tb gdb gab ta gda gaa Db Ab Da Aa v :=
  ⟨h.kept, h.thb, h.tha, h.st, h.nb, h.na, fun g e => ⟨(h.nv g e).1, (h.nv g e).2.2, (h.nv g e).2.1⟩, fun k hk h' => h.ab k h' hk⟩

theorem MW.on {w : World} {N : Nat} {wr w' : World} {ta gda gaa tb gdb gab : Nat} {Da Aa Db Ab : List Nat} {v : Value} (h : MW w N wr ta gda gaa tb gdb gab Da Aa Db Ab v) (hk : Kept (fun _ => False) wr w') : MW w N w' ta gda gaa tb gdb gab Da Aa Db Ab v :=
  ⟨h.kept.trans hk (fun _ _ h => h), h.tha.kept hk (fun _ _ h => h), h.thb.kept hk (fun _ _ h => h), hk.owns h.st (fun _ _ h => h), h.na, h.nb, h.nv, h.ab⟩

/-- 'follow' on the second set. -/
theorem follow_mw {w : World} {wr : World} {ta gda gaa tb gdb gab : Nat} {Da Aa Db Ab : List Nat} {v : Value} (p gi ci : Nat) (vs : Value) (P : List I) (M : Nat) (wf : Wf P M) (h : MW w P.length wr ta gda gaa tb gdb gab Da Aa Db Ab v)
    (hp : PrAt w p gi ci vs P) (pc : Nat) (hpc : pc < P.length) (hc : Closed P Db) :
    Calls Try.prog 35 #[.pointer (some ⟨p, 0, none⟩), .pointer (some ⟨tb, 0, none⟩), .int .i32 pc, v] wr fun e w' => ∃ Db' Ab' v', e = .returned v' ∧ MW w P.length w' ta gda gaa tb gdb gab Da Aa Db' Ab' v' ∧
      Closed P Db' ∧ pc ∈ Db' ∧ (∀ x ∈ Db, x ∈ Db') ∧ (∀ x ∈ Db', x ∈ Db ∨ epsStar P pc x) := by
  have hp' := hp.kept h.kept (fun h => h) (fun h => h)
  have hlt := hp.lt
  refine (follow_any p gi ci vs P M wf tb gdb gab Db Ab pc hpc v 0 [] wr hp' h.thb h.st (fun e => by have := h.nb p e; omega) (fun e => by have := h.nb gi e; omega)
    (fun g e => ⟨(h.nv g e).2.2, by have := (h.nv g e).1; omega, by have := (h.nv g e).1; omega⟩) hc).mono ?_
  rintro e w' ⟨Db', Ab', v', rfl, hth, hown, hblk, hk, q1, q2, q3, q4⟩
  refine ⟨Db', Ab', v', rfl, ⟨?_, ?_, hth, hown, h.na, h.nb, ?_, h.ab⟩, q1, q2, q3, q4⟩
  · refine h.kept.trans hk ?_
    intro i hi e
    rcases e with e | e
    · have := h.nb i e; omega
    · have := (h.nv i e).1; omega
  · refine h.tha.kept hk ?_
    intro k hk' e
    rcases e with e | e
    · exact h.ab k hk' e
    · exact (h.nv k e).2.1 hk'
  · intro g e
    rcases hblk with hb | ⟨g', hb, hle⟩
    · exact h.nv g (hb ▸ e)
    · rw [hb] at e
      cases e
      refine ⟨Nat.le_trans h.kept.size hle, fun e => ?_, fun e => ?_⟩
      · have := h.tha.lt g e; omega
      · have := h.thb.lt g e; omega

theorem drop_byte (s : ByteArray) (k : Nat) (h : k < s.size) : s.data.toList.drop k = s[k] :: s.data.toList.drop (k + 1) := by
  rw [List.drop_eq_getElem_cons (by simpa using h)]; rfl

/-- 'clear' of the second set. -/
theorem clear_mw {w : World} {N : Nat} {wr : World} {ta gda gaa tb gdb gab : Nat} {Da Aa Db Ab : List Nat} {v : Value} (h : MW w N wr ta gda gaa tb gdb gab Da Aa Db Ab v) :
    Calls Try.prog 36 #[.pointer (some ⟨tb, 0, none⟩)] wr fun e w' => e = .returned (.tuple #[]) ∧ MW w N w' ta gda gaa tb gdb gab Da Aa [] Ab v := by
  refine (clear_any tb gdb gab N Db Ab wr h.thb).mono ?_
  rintro e w' ⟨rfl, hth, hk⟩
  refine ⟨rfl, h.kept.trans hk (fun i hi e => by have := h.nb i e; omega), h.tha.kept hk (fun k hk' e => h.ab k hk' e), hth, hk.owns h.st (fun g e => (h.nv g e).2.2), h.na, h.nb, h.nv, h.ab⟩

theorem follow_mw0 {w : World} {wr : World} {ta gda gaa tb gdb gab : Nat} {Da Aa Db Ab : List Nat} {v : Value} (p gi ci : Nat) (vs : Value) (P : List I) (M : Nat) (wf : Wf P M) (h : MW w P.length wr ta gda gaa tb gdb gab Da Aa Db Ab v)
    (hp : PrAt w p gi ci vs P) (hpc : 0 < P.length) (hc : Closed P Db) :
    Calls Try.prog 35 #[.pointer (some ⟨p, 0, none⟩), .pointer (some ⟨tb, 0, none⟩), .int .i32 0, v] wr fun e w' => ∃ Db' Ab' v', e = .returned v' ∧ MW w P.length w' ta gda gaa tb gdb gab Da Aa Db' Ab' v' ∧
      Closed P Db' ∧ 0 ∈ Db' ∧ (∀ x ∈ Db, x ∈ Db') ∧ (∀ x ∈ Db', x ∈ Db ∨ epsStar P 0 x) := by
  have := follow_mw p gi ci vs P M wf h hp 0 hpc hc
  rwa [show ((0 : Nat) : Int) = 0 from rfl] at this

/-- What the matcher says. -/
def AccPost (P : List I) (L : List S4) (s : ByteArray) (w : World) (e : Ending) (w' : World) : Prop :=
  ∃ b : Bool, e = .returned (.bool b) ∧ (b = true ↔ Acc P (hasOf L) 0 s.data.toList) ∧ Kept (fun _ => False) w w'
theorem AccPost.mk {P : List I} {L : List S4} {s : ByteArray} {w : World} {e : Ending} {w' : World} (b : Bool) (h1 : e = .returned (.bool b)) (h2 : b = true ↔ Acc P (hasOf L) 0 s.data.toList) (h3 : Kept (fun _ => False) w w') : AccPost P L s w e w' := ⟨b, h1, h2, h3⟩

set_option maxHeartbeats 2000000 in
theorem matches_any (p gi ci : Nat) (vs : Value) (P : List I) (L : List S4) (wf : Wf P L.length) (hN : 0 < P.length) (s : ByteArray) (hs : s.size ≤ maxLen) (w : World) 
    (hp : PrAt w p gi ci vs P) (hset : w.ownsRow 0 53 4 vs L.length (srow L)) :
    Calls Try.prog 31 #[.pointer (some ⟨p, 0, none⟩), .string s] w fun e w' => AccPost P L s w e w' := by
  have hsmall := wf.small
  have e0 := hp.cell0
  have HK : Hid (∀ w' : World, Kept (fun _ => False) w w' → w'.cell? ⟨p, 0, none⟩ = some (.slice (some ⟨gi, 0, none⟩) P.length ci)) := fun w' hk => (hp.kept hk (fun h => h) (fun h => h)).cell0
  have HP : Hid (PrAt w p gi ci vs P) := hp
  have HS : Hid (w.ownsRow 0 53 4 vs L.length (srow L)) := hset
  clear hp hset
  have K0 : Kept (fun _ => False) w w.drew := (Kept.refl _ w).drew
  have tok1 : True := trivial
  go_enter Try.func31, Try.ntmps31
  go_wp2_with fail
  go_region_held3 (fun w' => w'.cell? ⟨p, 0, none⟩ = some (.slice (some ⟨gi, 0, none⟩) P.length ci)) (first | assumption | go_keep)
    (first
      | (go_at_call 34; have _t := tok1; refine (newThreads_any P.length (by omega) _).mono ?_; rintro e w1 ⟨ta, gda, gaa, rfl, hth1, hk1, hn1⟩; have hc1 := HK.out w1 (K0.trans hk1 (fun _ _ h => h)); clear tok1)
      | (go_at_call 34; refine (newThreads_any P.length (by omega) _).mono ?_; rintro e w2 ⟨tb, gdb, gab, rfl, hth2, hk2, hn2⟩; have hc2 := HK.out w2 ((K0.trans hk1 (fun _ _ h => h)).trans hk2 (fun _ _ h => h))))
  have M0 : MW w P.length w2 ta gda gaa tb gdb gab [] (List.replicate P.length 0) [] (List.replicate P.length 0) (.slice none 0 0) := by
    have s1 := hk1.size
    refine ⟨(K0.trans hk1 (fun _ _ h => h)).trans hk2 (fun _ _ h => h), hth1.kept hk2 (fun _ _ h => h), hth2, World.ownsRow_nil _ _ _ _, hn1, fun k hk => by have := hn2 k hk; simp at s1; omega, fun g e => by simp [Value.ownBlock] at e, fun k hk hk' => ?_⟩
    have a := hth1.lt k hk
    have b := hn2 k hk'
    omega
  clear hth1 hth2 hk1 hk2 hn1 hn2 hc1 hc2 K0
  go_wp2_with fail
  refine (follow_mw0 p gi ci vs P L.length wf M0.swap HP.out hN (fun a b h => by cases h)).mono ?_
  rintro e w3 ⟨Da, Aa, v, rfl, M1, q1, q2, q3, q4⟩
  have T0 : Track P (hasOf L) s.data.toList Da s.data.toList := Track.start q1 q2 (fun q hq => (q4 q hq).elim (fun h => by cases h) id)
  have M2 := M1.swap
  clear M0 M1 q1 q2 q3 q4
  unfold maxLen at hs
  go_wp2_with fail
  go_loopw [5, 6, 7, 8] (fun now next v i wr => ∃ (k ta gda gaa tb gdb gab : Nat) (Da Aa Db Ab : List Nat), k ≤ s.size ∧ i = .int .i64 k ∧ now = .pointer (some ⟨ta, 0, none⟩) ∧ next = .pointer (some ⟨tb, 0, none⟩) ∧
      MW w P.length wr ta gda gaa tb gdb gab Da Aa Db Ab v ∧ Track P (hasOf L) s.data.toList Da (s.data.toList.drop k)) (fun _ _ _ i _ => s.size - (intOf i).toNat)
  case atStart => exact ⟨0, ta, gda, gaa, tb, gdb, gab, Da, Aa, [], _, Nat.zero_le _, rfl, rfl, rfl, M2, by simpa using T0⟩
  case round =>
    clear T0 M2
    obtain ⟨k, ta', gda', gaa', tb', gdb', gab', Da', Aa', Db', Ab', hk, rfl, rfl, rfl, M, T⟩ := hrel
    have c0 := M.tha.cell0
    have hDl : Da'.length ≤ P.length := M.tha.sp.length_le
    have HM : Hid (MW w P.length wr ta' gda' gaa' tb' gdb' gab' Da' Aa' Db' Ab' _) := M
    have HT : Hid (Track P (hasOf L) s.data.toList Da' (s.data.toList.drop k)) := T
    clear M T
    by_cases hlt : k < s.size
    · by_cases hne : 0 < Da'.length
      · go_wp2_with fail
        refine (clear_mw HM.out).mono ?_
        rintro e w4 ⟨rfl, M4⟩
        have c4 := M4.tha.cell0
        go_wp2_with fail
        obtain ⟨wo, hwo⟩ : ∃ wo : World, wo = wr := ⟨_, rfl⟩
        go_loopw [7, 51] (fun v j wq => ∃ (jn : Nat) (E Ab2 : List Nat), jn ≤ Da'.length ∧ j = .int .i64 jn ∧ MW w P.length wq ta' gda' gaa' tb' gdb' gab' Da' Aa' E Ab2 v ∧ Stepped P (hasOf L) (s[k]'hlt) (Da'.take jn) E) (fun _ j _ => Da'.length - (intOf j).toNat)
        case atStart => exact ⟨0, [], Ab', Nat.zero_le _, rfl, M4, by simpa using Stepped.start P (hasOf L) _⟩
        case round =>
          clear M4 c4 hwo
          obtain ⟨jn, E, Ab2, hj, rfl, M5, Sp⟩ := hrel
          have HM5 : Hid (MW w P.length wr ta' gda' gaa' tb' gdb' gab' Da' Aa' E Ab2 _) := M5
          by_cases hjl : jn < Da'.length
          · have hcx := M5.tha.cellD (List.getElem?_eq_getElem hjl)
            have hxl : Da'[jn] < P.length := M5.tha.sp.lt _ (List.getElem_mem hjl)
            obtain ⟨i, hi⟩ : ∃ i, P[Da'[jn]]? = some i := ⟨_, List.getElem?_eq_getElem hxl⟩
            have hp5 := HP.out.kept M5.kept (fun h => h) (fun h => h)
            have e1 := hp5.cell0
            have e2 := hp5.op hi
            have e3 := hp5.arg hi
            have e4 := hp5.next hi
            have HI : Hid (P[Da'[jn]]? = some i) := hi
            have him : i ∈ P := List.mem_of_getElem? hi
            have HX : Hid (Da'.take (jn + 1) = Da'.take jn ++ [Da'[jn]]) := List.take_succ_eq_append_getElem hjl
            have hib := wf.arg i him
            have hin := wf.next i him
            clear hi M5
            generalize Da'[jn] = x at *
            have HS5 : Hid (Stepped P (hasOf L) (s[k]'hlt) (Da'.take jn) E) := Sp
            clear Sp
            by_cases h0 : i.op = 0
            · obtain ⟨hal, hnl⟩ := wf.byte i him h0
              obtain ⟨y, hy⟩ : ∃ y, L[i.arg]? = some y := ⟨_, List.getElem?_eq_getElem hal⟩
              have hown5 := HM5.out.kept.owns HS.out (fun _ _ h => h)
              obtain ⟨gs, cs, hvs⟩ : ∃ gs cs, vs = .slice (some ⟨gs, 0, none⟩) L.length cs := by
                rcases HS.out.2 with ⟨_, h⟩ | ⟨g, cap, cur, h, _⟩
                · omega
                · exact ⟨g, cap, h⟩
              have e5 : wr.cell? ⟨p, 1, none⟩ = some (.slice (some ⟨gs, 0, none⟩) L.length cs) := by rw [hp5.cell1, hvs]
              rw [hvs] at hown5
              have hpw : p < wr.heap.size := hp5.lt.1
              have hc256 : (s[k]'hlt).toNat < 256 := UInt8.toNat_lt _
              have Hcell : Hid (∀ W' : World, Kept (fun _ => False) wr W' → W'.cell? ⟨gs, i.arg * 4 + (s[k]'hlt).toNat / 64, none⟩ = some (.int .u64 (y.word ((s[k]'hlt).toNat / 64)))) := by
                intro W' hk'
                have h1 := hk'.owns hown5 (fun _ _ h => h)
                rw [h1.cellAt _ (by omega), srow_get hy _ (by omega), scells_word _ _ (by omega)]
              have Hy : Hid (hasOf L i.arg (s[k]'hlt) = inB (y.word ((s[k]'hlt).toNat / 64)) (s[k]'hlt).toNat) := by
                show hasOf L i.arg (s[k]'hlt) = _
                simp only [hasOf, hy]
                rfl
              rw [h0] at e2
              have h0' : Hid (i.op = 0) := h0
              clear hy hvs hown5 hp5 h0
              go_wp2_with fail
              go_quiet ((go_at_call 37; exact Calls.quiet_of_same (has_any gs (i.arg * 4) _ _ hc256 _ (Hcell.out _ (((Kept.refl _ wr).alloc _).drewN _)))))
              cases hb : inB (y.word ((s[k]'hlt).toNat / 64)) (s[k]'hlt).toNat with
              | false =>
                have Sp2 : Stepped P (hasOf L) (s[k]'hlt) (Da'.take (jn + 1)) E := by
                  rw [HX.out]
                  exact HS5.out.miss HI.out (fun h => by rw [Hy.out, hb] at h; cases h.2)
                clear hb
                go_wp2_with fail
                go_roundw
                case rel => exact ⟨jn + 1, E, Ab2, by omega, by go_num, HM5.out.on (((Kept.refl _ wr).alloc _).drewN _), Sp2⟩
                case measure => simp [intOf]; omega
              | true =>
                have Hb : Hid (hasOf L i.arg (s[k]'hlt) = true) := by rw [Hid, Hy.out]; exact hb
                clear hb
                go_wp2_with fail
                refine (follow_mw p gi ci vs P L.length wf (HM5.out.on (((Kept.refl _ wr).alloc _).drewN _)) HP.out i.next hnl HS5.out.closed).mono ?_
                rintro e w6 ⟨E', Ab3, v', rfl, M6, q1, q2, q3, q4⟩
                have Sp2 : Stepped P (hasOf L) (s[k]'hlt) (Da'.take (jn + 1)) E' := by
                  rw [HX.out]
                  exact HS5.out.hit HI.out h0'.out Hb.out q1 q2 q3 q4
                clear q1 q2 q3 q4
                go_wp2_with fail
                go_roundw
                case rel => exact ⟨jn + 1, E', Ab3, by omega, by go_num, M6, Sp2⟩
                case measure => simp [intOf]; omega
            · have t0 : ((i.op : Int) == 0) = false := by rw [beq_eq_false_iff_ne]; omega
              have Sp2 : Stepped P (hasOf L) (s[k]'hlt) (Da'.take (jn + 1)) E := by
                rw [HX.out]
                exact HS5.out.miss HI.out (fun h => h0 h.1)
              clear hp5
              go_wp2_with fail
              go_quiet (fail)
              go_wp2_with fail
              go_roundw
              case rel => exact ⟨jn + 1, E, Ab2, by omega, by go_num, HM5.out.on (((Kept.refl _ wr).alloc _).drewN _), Sp2⟩
              case measure => simp [intOf]; omega
          · have hjn : jn = Da'.length := by omega
            have Tn : Track P (hasOf L) s.data.toList E (s.data.toList.drop (k + 1)) := by
              have hT := HT.out
              rw [drop_byte s k hlt] at hT
              refine hT.step ?_
              rw [hjn, List.take_length] at Sp
              exact Sp
            clear hjn Sp M5
            go_wp2_with fail
            go_roundw
            case rel => exact ⟨k + 1, tb', gdb', gab', ta', gda', gaa', E, Ab2, Da', Aa', by omega, by go_num, rfl, rfl, HM5.out.swap, Tn⟩
            case measure => simp [intOf]; omega
      · have hD0 : Da' = [] := List.eq_nil_of_length_eq_zero (by omega)
        have Hfin : Hid (Acc P (hasOf L) 0 s.data.toList ↔ ∃ p i, p ∈ Da' ∧ P[p]? = some i ∧ i.op = 3) := HT.out.fin (.inr hD0)
        clear hD0 HT
        have hd : decide ((0 : Int) < (Da'.length : Int)) = false := by simpa using hne
        go_wp2_with fail
        go_loop [92] (fun j => ∃ jn : Nat, jn ≤ Da'.length ∧ j = .int .i64 jn ∧ Hid (∀ x ∈ Da'.take jn, ∀ i, P[x]? = some i → i.op ≠ 3)) (fun j => Da'.length - (intOf j).toNat)
        case atStart => exact ⟨0, Nat.zero_le _, rfl, fun x hx => by simp at hx⟩
        case round =>
          obtain ⟨jn, hj, rfl, Hno⟩ := hrel
          by_cases hjl : jn < Da'.length
          · exact absurd hjl (by omega)
          · have hnacc : Hid (¬ Acc P (hasOf L) 0 s.data.toList) := by
              intro ha
              obtain ⟨x, i, hx, hi, h3⟩ := Hfin.out.1 ha
              exact Hno.out x (by rw [List.take_of_length_le (by omega)]; exact hx) i hi h3
            go_wp2_with fail
            go_ret
            exact AccPost.mk false rfl ⟨(fun h => by cases h), fun h => (hnacc.out h).elim⟩ HM.out.kept
    · have Hfin : Hid (Acc P (hasOf L) 0 s.data.toList ↔ ∃ p i, p ∈ Da' ∧ P[p]? = some i ∧ i.op = 3) := HT.out.fin (.inl (List.drop_eq_nil_of_le (by simp; omega)))
      clear HT
      go_wp2_with fail
      go_loop [92] (fun j => ∃ jn : Nat, jn ≤ Da'.length ∧ j = .int .i64 jn ∧ Hid (∀ x ∈ Da'.take jn, ∀ i, P[x]? = some i → i.op ≠ 3)) (fun j => Da'.length - (intOf j).toNat)
      case atStart => exact ⟨0, Nat.zero_le _, rfl, fun x hx => by simp at hx⟩
      case round =>
        obtain ⟨jn, hj, rfl, Hno⟩ := hrel
        by_cases hjl : jn < Da'.length
        · have hcx := HM.out.tha.cellD (List.getElem?_eq_getElem hjl)
          have hxl : Da'[jn] < P.length := HM.out.tha.sp.lt _ (List.getElem_mem hjl)
          have hxm : Da'[jn] ∈ Da' := List.getElem_mem hjl
          obtain ⟨i, hi⟩ : ∃ i, P[Da'[jn]]? = some i := ⟨_, List.getElem?_eq_getElem hxl⟩
          have hp5 := HP.out.kept HM.out.kept (fun h => h) (fun h => h)
          have e1 := hp5.cell0
          have e2 := hp5.op hi
          have HI : Hid (P[Da'[jn]]? = some i) := hi
          have HX : Hid (Da'.take (jn + 1) = Da'.take jn ++ [Da'[jn]]) := List.take_succ_eq_append_getElem hjl
          clear hi hp5
          generalize Da'[jn] = x at *
          by_cases h3 : i.op = 3
          · have hacc : Acc P (hasOf L) 0 s.data.toList := Hfin.out.2 ⟨x, i, hxm, HI.out, h3⟩
            rw [h3] at e2
            clear h3
            have Hacc : Hid (Acc P (hasOf L) 0 s.data.toList) := hacc
            clear hacc
            go_wp2_with fail
            go_ret
            exact AccPost.mk true rfl ⟨fun _ => Hacc.out, fun _ => rfl⟩ HM.out.kept
          · have t3 : ((i.op : Int) == 3) = false := by rw [beq_eq_false_iff_ne]; omega
            have Hno2 : Hid (∀ x ∈ Da'.take (jn + 1), ∀ i, P[x]? = some i → i.op ≠ 3) := by
              intro y hy j hj'
              rw [HX.out] at hy
              rcases List.mem_append.1 hy with hy | hy
              · exact Hno.out y hy j hj'
              · simp at hy
                subst hy
                rw [HI.out] at hj'
                cases hj'
                exact h3
            clear h3
            go_wp2_with fail
            go_round
            case rel => exact ⟨jn + 1, by omega, by go_num, Hno2⟩
            case measure => simp [intOf]; omega
        · have hnacc : Hid (¬ Acc P (hasOf L) 0 s.data.toList) := by
            intro ha
            obtain ⟨x, i, hx, hi, h3⟩ := Hfin.out.1 ha
            exact Hno.out x (by rw [List.take_of_length_le (by omega)]; exact hx) i hi h3
          go_wp2_with fail
          go_ret
          exact AccPost.mk false rfl ⟨(fun h => by cases h), fun h => (hnacc.out h).elim⟩ HM.out.kept
end Go.Proofs.Qxb6000456a
