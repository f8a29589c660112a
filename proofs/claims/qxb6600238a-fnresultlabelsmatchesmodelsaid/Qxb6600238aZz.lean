import Derived.Test.Qxb6600238aRl0
set_option linter.unusedVariables false
set_option linter.unusedSimpArgs false
set_option linter.unusedSectionVars false
namespace Go.Proofs.Qxb6600238a
open Go.Shelf Go.RowKit Go.Lib Go.Sort

set_option maxHeartbeats 8000000 in
set_option maxRecDepth 1000000 in
theorem zzbytes_any (card : Int) (on drop : Bool) (p1 p2 p3 p4 p5 p6 : Option Addr) (n1 n2 n3 n4 n5 n6 c1 c2 c3 c4 c5 c6 : Nat) (l1 l2 l3 l4 l5 l6 : List ByteArray) (w : World)
    (h1 : StrS w p1 n1 l1) (h2 : StrS w p2 n2 l2) (h3 : StrS w p3 n3 l3) (h4 : StrS w p4 n4 l4) (h5 : StrS w p5 n5 l5) (h6 : StrS w p6 n6 l6)
    (m1 : n1 ≤ maxLen) (m2 : n2 ≤ maxLen) (m3 : n3 ≤ maxLen) (m4 : n4 ≤ maxLen) (m5 : n5 ≤ maxLen) (m6 : n6 ≤ maxLen) :
    Calls Try.prog 15 #[.int .i64 card, .bool on, .slice p1 n1 c1, .slice p2 n2 c2, .slice p3 n3 c3, .slice p4 n4 c4, .slice p5 n5 c5, .slice p6 n6 c6, .bool drop] w fun e w' =>
      (e = .returned (.bool false) ∨ e = .returned (.bool true)) ∧ w = w' := by
  have H1 : Aside _ := h1.2
  have H2 : Aside _ := h2.2
  have H3 : Aside _ := h3.2
  have H4 : Aside _ := h4.2
  have H5 : Aside _ := h5.2
  have H6 : Aside _ := h6.2
  clear h1 h2 h3 h4 h5 h6
  unfold maxLen at m1 m2 m3 m4 m5 m6
  go_enter Try.func15, Try.ntmps15
  by_cases a1 : (1048576 : Int) < (n1 : Int)
  · go_wp2_with fail
    go_ret
    exact ⟨.inl rfl, rfl⟩
  · go_wp2_with fail
    go_loop [19, 20] (fun t i => ∃ (q z : Nat), q ≤ n1 ∧ i = .int .i64 q ∧ t = .int .i64 z ∧ z ≤ 1048576) (fun _ i => n1 - (intOf i).toNat)
    case atStart => exact ⟨0, n1, Nat.zero_le _, rfl, by first | rfl | go_num, by omega⟩
    case round =>
      obtain ⟨q1, z1, hq1, rfl, rfl, hz1⟩ := hrel
      by_cases hlt1 : q1 < n1
      · have hlti1 : (q1 : Int) < (n1 : Int) := by omega
        obtain ⟨b, off, rfl, hb, hc⟩ := H1.out q1 hlt1
        have cx := hc q1 hlt1
        clear hc
        generalize l1.getD q1 ByteArray.empty = y at cx
        by_cases y1 : (1048576 : Int) < (y.size : Int)
        · go_wp2_with fail
          go_ret
          exact ⟨.inl rfl, rfl⟩
        · by_cases y2 : (1048576 : Int) < (z1 : Int) + (y.size : Int)
          · go_wp2_with fail
            go_ret
            exact ⟨.inl rfl, rfl⟩
          · go_wp2_with fail
            go_round
            case rel => exact ⟨q1 + 1, z1 + y.size, by omega, by go_num, by go_num, by omega⟩
            case measure => simp [intOf]; omega
      · have hlti1 : ¬ (q1 : Int) < (n1 : Int) := by omega
        clear H1
        by_cases a2 : (1048576 : Int) < (n2 : Int)
        · go_wp2_with fail
          go_ret
          exact ⟨.inl rfl, rfl⟩
        · by_cases b2 : (1048576 : Int) < (z1 : Int) + (n2 : Int)
          · go_wp2_with fail
            go_ret
            exact ⟨.inl rfl, rfl⟩
          · go_wp2_with fail
            go_loop [19, 21] (fun t i => ∃ (q z : Nat), q ≤ n2 ∧ i = .int .i64 q ∧ t = .int .i64 z ∧ z ≤ 1048576) (fun _ i => n2 - (intOf i).toNat)
            case atStart => exact ⟨0, z1 + n2, Nat.zero_le _, rfl, by first | rfl | go_num, by omega⟩
            case round =>
              obtain ⟨q2, z2, hq2, rfl, rfl, hz2⟩ := hrel
              by_cases hlt2 : q2 < n2
              · have hlti2 : (q2 : Int) < (n2 : Int) := by omega
                obtain ⟨b, off, rfl, hb, hc⟩ := H2.out q2 hlt2
                have cx := hc q2 hlt2
                clear hc
                generalize l2.getD q2 ByteArray.empty = y at cx
                by_cases y1 : (1048576 : Int) < (y.size : Int)
                · go_wp2_with fail
                  go_ret
                  exact ⟨.inl rfl, rfl⟩
                · by_cases y2 : (1048576 : Int) < (z2 : Int) + (y.size : Int)
                  · go_wp2_with fail
                    go_ret
                    exact ⟨.inl rfl, rfl⟩
                  · go_wp2_with fail
                    go_round
                    case rel => exact ⟨q2 + 1, z2 + y.size, by omega, by go_num, by go_num, by omega⟩
                    case measure => simp [intOf]; omega
              · have hlti2 : ¬ (q2 : Int) < (n2 : Int) := by omega
                clear H2
                by_cases a3 : (1048576 : Int) < (n3 : Int)
                · go_wp2_with fail
                  go_ret
                  exact ⟨.inl rfl, rfl⟩
                · by_cases b3 : (1048576 : Int) < (z2 : Int) + (n3 : Int)
                  · go_wp2_with fail
                    go_ret
                    exact ⟨.inl rfl, rfl⟩
                  · go_wp2_with fail
                    go_loop [19, 22] (fun t i => ∃ (q z : Nat), q ≤ n3 ∧ i = .int .i64 q ∧ t = .int .i64 z ∧ z ≤ 1048576) (fun _ i => n3 - (intOf i).toNat)
                    case atStart => exact ⟨0, z2 + n3, Nat.zero_le _, rfl, by first | rfl | go_num, by omega⟩
                    case round =>
                      obtain ⟨q3, z3, hq3, rfl, rfl, hz3⟩ := hrel
                      by_cases hlt3 : q3 < n3
                      · have hlti3 : (q3 : Int) < (n3 : Int) := by omega
                        obtain ⟨b, off, rfl, hb, hc⟩ := H3.out q3 hlt3
                        have cx := hc q3 hlt3
                        clear hc
                        generalize l3.getD q3 ByteArray.empty = y at cx
                        by_cases y1 : (1048576 : Int) < (y.size : Int)
                        · go_wp2_with fail
                          go_ret
                          exact ⟨.inl rfl, rfl⟩
                        · by_cases y2 : (1048576 : Int) < (z3 : Int) + (y.size : Int)
                          · go_wp2_with fail
                            go_ret
                            exact ⟨.inl rfl, rfl⟩
                          · go_wp2_with fail
                            go_round
                            case rel => exact ⟨q3 + 1, z3 + y.size, by omega, by go_num, by go_num, by omega⟩
                            case measure => simp [intOf]; omega
                      · have hlti3 : ¬ (q3 : Int) < (n3 : Int) := by omega
                        clear H3
                        by_cases a4 : (1048576 : Int) < (n4 : Int)
                        · go_wp2_with fail
                          go_ret
                          exact ⟨.inl rfl, rfl⟩
                        · by_cases b4 : (1048576 : Int) < (z3 : Int) + (n4 : Int)
                          · go_wp2_with fail
                            go_ret
                            exact ⟨.inl rfl, rfl⟩
                          · go_wp2_with fail
                            go_loop [19, 23] (fun t i => ∃ (q z : Nat), q ≤ n4 ∧ i = .int .i64 q ∧ t = .int .i64 z ∧ z ≤ 1048576) (fun _ i => n4 - (intOf i).toNat)
                            case atStart => exact ⟨0, z3 + n4, Nat.zero_le _, rfl, by first | rfl | go_num, by omega⟩
                            case round =>
                              obtain ⟨q4, z4, hq4, rfl, rfl, hz4⟩ := hrel
                              by_cases hlt4 : q4 < n4
                              · have hlti4 : (q4 : Int) < (n4 : Int) := by omega
                                obtain ⟨b, off, rfl, hb, hc⟩ := H4.out q4 hlt4
                                have cx := hc q4 hlt4
                                clear hc
                                generalize l4.getD q4 ByteArray.empty = y at cx
                                by_cases y1 : (1048576 : Int) < (y.size : Int)
                                · go_wp2_with fail
                                  go_ret
                                  exact ⟨.inl rfl, rfl⟩
                                · by_cases y2 : (1048576 : Int) < (z4 : Int) + (y.size : Int)
                                  · go_wp2_with fail
                                    go_ret
                                    exact ⟨.inl rfl, rfl⟩
                                  · go_wp2_with fail
                                    go_round
                                    case rel => exact ⟨q4 + 1, z4 + y.size, by omega, by go_num, by go_num, by omega⟩
                                    case measure => simp [intOf]; omega
                              · have hlti4 : ¬ (q4 : Int) < (n4 : Int) := by omega
                                clear H4
                                by_cases a5 : (1048576 : Int) < (n5 : Int)
                                · go_wp2_with fail
                                  go_ret
                                  exact ⟨.inl rfl, rfl⟩
                                · by_cases b5 : (1048576 : Int) < (z4 : Int) + (n5 : Int)
                                  · go_wp2_with fail
                                    go_ret
                                    exact ⟨.inl rfl, rfl⟩
                                  · go_wp2_with fail
                                    go_loop [19, 24] (fun t i => ∃ (q z : Nat), q ≤ n5 ∧ i = .int .i64 q ∧ t = .int .i64 z ∧ z ≤ 1048576) (fun _ i => n5 - (intOf i).toNat)
                                    case atStart => exact ⟨0, z4 + n5, Nat.zero_le _, rfl, by first | rfl | go_num, by omega⟩
                                    case round =>
                                      obtain ⟨q5, z5, hq5, rfl, rfl, hz5⟩ := hrel
                                      by_cases hlt5 : q5 < n5
                                      · have hlti5 : (q5 : Int) < (n5 : Int) := by omega
                                        obtain ⟨b, off, rfl, hb, hc⟩ := H5.out q5 hlt5
                                        have cx := hc q5 hlt5
                                        clear hc
                                        generalize l5.getD q5 ByteArray.empty = y at cx
                                        by_cases y1 : (1048576 : Int) < (y.size : Int)
                                        · go_wp2_with fail
                                          go_ret
                                          exact ⟨.inl rfl, rfl⟩
                                        · by_cases y2 : (1048576 : Int) < (z5 : Int) + (y.size : Int)
                                          · go_wp2_with fail
                                            go_ret
                                            exact ⟨.inl rfl, rfl⟩
                                          · go_wp2_with fail
                                            go_round
                                            case rel => exact ⟨q5 + 1, z5 + y.size, by omega, by go_num, by go_num, by omega⟩
                                            case measure => simp [intOf]; omega
                                      · have hlti5 : ¬ (q5 : Int) < (n5 : Int) := by omega
                                        clear H5
                                        by_cases a6 : (1048576 : Int) < (n6 : Int)
                                        · go_wp2_with fail
                                          go_ret
                                          exact ⟨.inl rfl, rfl⟩
                                        · by_cases b6 : (1048576 : Int) < (z5 : Int) + (n6 : Int)
                                          · go_wp2_with fail
                                            go_ret
                                            exact ⟨.inl rfl, rfl⟩
                                          · go_wp2_with fail
                                            go_loop [19, 25] (fun t i => ∃ (q z : Nat), q ≤ n6 ∧ i = .int .i64 q ∧ t = .int .i64 z ∧ z ≤ 1048576) (fun _ i => n6 - (intOf i).toNat)
                                            case atStart => exact ⟨0, z5 + n6, Nat.zero_le _, rfl, by first | rfl | go_num, by omega⟩
                                            case round =>
                                              obtain ⟨q6, z6, hq6, rfl, rfl, hz6⟩ := hrel
                                              by_cases hlt6 : q6 < n6
                                              · have hlti6 : (q6 : Int) < (n6 : Int) := by omega
                                                obtain ⟨b, off, rfl, hb, hc⟩ := H6.out q6 hlt6
                                                have cx := hc q6 hlt6
                                                clear hc
                                                generalize l6.getD q6 ByteArray.empty = y at cx
                                                by_cases y1 : (1048576 : Int) < (y.size : Int)
                                                · go_wp2_with fail
                                                  go_ret
                                                  exact ⟨.inl rfl, rfl⟩
                                                · by_cases y2 : (1048576 : Int) < (z6 : Int) + (y.size : Int)
                                                  · go_wp2_with fail
                                                    go_ret
                                                    exact ⟨.inl rfl, rfl⟩
                                                  · go_wp2_with fail
                                                    go_round
                                                    case rel => exact ⟨q6 + 1, z6 + y.size, by omega, by go_num, by go_num, by omega⟩
                                                    case measure => simp [intOf]; omega
                                              · have hlti6 : ¬ (q6 : Int) < (n6 : Int) := by omega
                                                clear H6
                                                go_wp2_with fail
                                                go_ret
                                                exact ⟨.inr rfl, rfl⟩
end Go.Proofs.Qxb6600238a
