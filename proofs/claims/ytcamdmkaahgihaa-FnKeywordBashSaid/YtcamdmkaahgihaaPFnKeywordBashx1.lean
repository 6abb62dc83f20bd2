-- PRINTED BY print.sh 35421559b90ae4d0a3588c463048766b98c2df88dd9212a6774a882060cdf62d: not written by this session
import Derived.Test.YtcamdmkaahgihaaPFnKeywordBashx0
namespace Go.Proofs.Ytcamdmkaahgihaa.PFnKeywordBash
open Go.RowKit Go.Proofs.YtcamdmkaahgihaaW.PrintWords Go.Proofs.YtcamdmkaahgihaaW.PrintLast Go.Proofs.YtcamdmkaahgihaaW.PrintMore
attribute [local go_sem] max2_int min2_int max_two min_two max_three min_three max_four min_four   -- for this text's walks alone
set_option linter.unusedVariables false
set_option linter.unusedSimpArgs false

/-! ### syntax_IsKeyword: function 15 -/
def syntax_IsKeyword.f (a0 : ByteArray) : Option (Bool) := if a0.toList = ([33] : List UInt8) then (some true) else (if a0.toList = ([91, 91] : List UInt8) then (some true) else (if a0.toList = ([93, 93] : List UInt8) then (some true) else (if a0.toList = ([99, 97, 115, 101] : List UInt8) then (some true) else (if a0.toList = ([99, 111, 112, 114, 111, 99] : List UInt8) then (some true) else (if a0.toList = ([100, 111] : List UInt8) then (some true) else (if a0.toList = ([100, 111, 110, 101] : List UInt8) then (some true) else (if a0.toList = ([101, 108, 115, 101] : List UInt8) then (some true) else (if a0.toList = ([101, 115, 97, 99] : List UInt8) then (some true) else (if a0.toList = ([102, 105] : List UInt8) then (some true) else (if a0.toList = ([102, 111, 114] : List UInt8) then (some true) else (if a0.toList = ([102, 117, 110, 99, 116, 105, 111, 110] : List UInt8) then (some true) else (if a0.toList = ([105, 102] : List UInt8) then (some true) else (if a0.toList = ([105, 110] : List UInt8) then (some true) else (if a0.toList = ([115, 101, 108, 101, 99, 116] : List UInt8) then (some true) else (if a0.toList = ([116, 104, 101, 110] : List UInt8) then (some true) else (if a0.toList = ([116, 105, 109, 101] : List UInt8) then (some true) else (if a0.toList = ([117, 110, 116, 105, 108] : List UInt8) then (some true) else (if a0.toList = ([119, 104, 105, 108, 101] : List UInt8) then (some true) else (if a0.toList = ([123] : List UInt8) then (some true) else (if a0.toList = ([125] : List UInt8) then (some true) else (some false)))))))))))))))))))))
set_option maxHeartbeats 8000000 in
set_option maxRecDepth 100000 in
theorem syntax_IsKeyword.calls (a0 : ByteArray) (r : Bool) (w : World) (h : syntax_IsKeyword.f a0 = some r) :
    Calls Try.prog 15 #[.string a0] w fun e w' => e = .returned (.bool r) ∧ Drawn0 w w' := by
  have H : (if a0.toList = ([33] : List UInt8) then (some true) else (if a0.toList = ([91, 91] : List UInt8) then (some true) else (if a0.toList = ([93, 93] : List UInt8) then (some true) else (if a0.toList = ([99, 97, 115, 101] : List UInt8) then (some true) else (if a0.toList = ([99, 111, 112, 114, 111, 99] : List UInt8) then (some true) else (if a0.toList = ([100, 111] : List UInt8) then (some true) else (if a0.toList = ([100, 111, 110, 101] : List UInt8) then (some true) else (if a0.toList = ([101, 108, 115, 101] : List UInt8) then (some true) else (if a0.toList = ([101, 115, 97, 99] : List UInt8) then (some true) else (if a0.toList = ([102, 105] : List UInt8) then (some true) else (if a0.toList = ([102, 111, 114] : List UInt8) then (some true) else (if a0.toList = ([102, 117, 110, 99, 116, 105, 111, 110] : List UInt8) then (some true) else (if a0.toList = ([105, 102] : List UInt8) then (some true) else (if a0.toList = ([105, 110] : List UInt8) then (some true) else (if a0.toList = ([115, 101, 108, 101, 99, 116] : List UInt8) then (some true) else (if a0.toList = ([116, 104, 101, 110] : List UInt8) then (some true) else (if a0.toList = ([116, 105, 109, 101] : List UInt8) then (some true) else (if a0.toList = ([117, 110, 116, 105, 108] : List UInt8) then (some true) else (if a0.toList = ([119, 104, 105, 108, 101] : List UInt8) then (some true) else (if a0.toList = ([123] : List UInt8) then (some true) else (if a0.toList = ([125] : List UInt8) then (some true) else (some false)))))))))))))))))))))) = some r := h
  clear h
  by_cases c2 : a0.toList = ([33] : List UInt8)
  · rw [if_pos c2] at H
    have c2b0 : (a0.toList == ([33] : List UInt8)) = true := beq_iff_eq.mpr c2
    have c2b1 : (a0.toList != ([33] : List UInt8)) = false := bne_eq_false_iff_eq.mpr c2
    clear c2
    obtain rfl := Option.some.inj H
    go_enter Try.func15, Try.ntmps15
    go_wp2
    go_ret
    exact ⟨by first | rfl | (simp; done) | (simp [*]; done), by repeat (first | exact Drawn0.refl _ | apply Drawn0.step)⟩
  · rw [if_neg c2] at H
    have c2b0 : (a0.toList == ([33] : List UInt8)) = false := beq_eq_false_iff_ne.mpr c2
    have c2b1 : (a0.toList != ([33] : List UInt8)) = true := bne_iff_ne.mpr c2
    by_cases c3 : a0.toList = ([91, 91] : List UInt8)
    · rw [if_pos c3] at H
      have c3b0 : (a0.toList == ([91, 91] : List UInt8)) = true := beq_iff_eq.mpr c3
      have c3b1 : (a0.toList != ([91, 91] : List UInt8)) = false := bne_eq_false_iff_eq.mpr c3
      clear c3
      obtain rfl := Option.some.inj H
      go_enter Try.func15, Try.ntmps15
      go_wp2
      go_ret
      exact ⟨by first | rfl | (simp; done) | (simp [*]; done), by repeat (first | exact Drawn0.refl _ | apply Drawn0.step)⟩
    · rw [if_neg c3] at H
      have c3b0 : (a0.toList == ([91, 91] : List UInt8)) = false := beq_eq_false_iff_ne.mpr c3
      have c3b1 : (a0.toList != ([91, 91] : List UInt8)) = true := bne_iff_ne.mpr c3
      by_cases c4 : a0.toList = ([93, 93] : List UInt8)
      · rw [if_pos c4] at H
        have c4b0 : (a0.toList == ([93, 93] : List UInt8)) = true := beq_iff_eq.mpr c4
        have c4b1 : (a0.toList != ([93, 93] : List UInt8)) = false := bne_eq_false_iff_eq.mpr c4
        clear c4
        obtain rfl := Option.some.inj H
        go_enter Try.func15, Try.ntmps15
        go_wp2
        go_ret
        exact ⟨by first | rfl | (simp; done) | (simp [*]; done), by repeat (first | exact Drawn0.refl _ | apply Drawn0.step)⟩
      · rw [if_neg c4] at H
        have c4b0 : (a0.toList == ([93, 93] : List UInt8)) = false := beq_eq_false_iff_ne.mpr c4
        have c4b1 : (a0.toList != ([93, 93] : List UInt8)) = true := bne_iff_ne.mpr c4
        by_cases c5 : a0.toList = ([99, 97, 115, 101] : List UInt8)
        · rw [if_pos c5] at H
          have c5b0 : (a0.toList == ([99, 97, 115, 101] : List UInt8)) = true := beq_iff_eq.mpr c5
          have c5b1 : (a0.toList != ([99, 97, 115, 101] : List UInt8)) = false := bne_eq_false_iff_eq.mpr c5
          clear c5
          obtain rfl := Option.some.inj H
          go_enter Try.func15, Try.ntmps15
          go_wp2
          go_ret
          exact ⟨by first | rfl | (simp; done) | (simp [*]; done), by repeat (first | exact Drawn0.refl _ | apply Drawn0.step)⟩
        · rw [if_neg c5] at H
          have c5b0 : (a0.toList == ([99, 97, 115, 101] : List UInt8)) = false := beq_eq_false_iff_ne.mpr c5
          have c5b1 : (a0.toList != ([99, 97, 115, 101] : List UInt8)) = true := bne_iff_ne.mpr c5
          by_cases c6 : a0.toList = ([99, 111, 112, 114, 111, 99] : List UInt8)
          · rw [if_pos c6] at H
            have c6b0 : (a0.toList == ([99, 111, 112, 114, 111, 99] : List UInt8)) = true := beq_iff_eq.mpr c6
            have c6b1 : (a0.toList != ([99, 111, 112, 114, 111, 99] : List UInt8)) = false := bne_eq_false_iff_eq.mpr c6
            clear c6
            obtain rfl := Option.some.inj H
            go_enter Try.func15, Try.ntmps15
            go_wp2
            go_ret
            exact ⟨by first | rfl | (simp; done) | (simp [*]; done), by repeat (first | exact Drawn0.refl _ | apply Drawn0.step)⟩
          · rw [if_neg c6] at H
            have c6b0 : (a0.toList == ([99, 111, 112, 114, 111, 99] : List UInt8)) = false := beq_eq_false_iff_ne.mpr c6
            have c6b1 : (a0.toList != ([99, 111, 112, 114, 111, 99] : List UInt8)) = true := bne_iff_ne.mpr c6
            by_cases c7 : a0.toList = ([100, 111] : List UInt8)
            · rw [if_pos c7] at H
              have c7b0 : (a0.toList == ([100, 111] : List UInt8)) = true := beq_iff_eq.mpr c7
              have c7b1 : (a0.toList != ([100, 111] : List UInt8)) = false := bne_eq_false_iff_eq.mpr c7
              clear c7
              obtain rfl := Option.some.inj H
              go_enter Try.func15, Try.ntmps15
              go_wp2
              go_ret
              exact ⟨by first | rfl | (simp; done) | (simp [*]; done), by repeat (first | exact Drawn0.refl _ | apply Drawn0.step)⟩
            · rw [if_neg c7] at H
              have c7b0 : (a0.toList == ([100, 111] : List UInt8)) = false := beq_eq_false_iff_ne.mpr c7
              have c7b1 : (a0.toList != ([100, 111] : List UInt8)) = true := bne_iff_ne.mpr c7
              by_cases c8 : a0.toList = ([100, 111, 110, 101] : List UInt8)
              · rw [if_pos c8] at H
                have c8b0 : (a0.toList == ([100, 111, 110, 101] : List UInt8)) = true := beq_iff_eq.mpr c8
                have c8b1 : (a0.toList != ([100, 111, 110, 101] : List UInt8)) = false := bne_eq_false_iff_eq.mpr c8
                clear c8
                obtain rfl := Option.some.inj H
                go_enter Try.func15, Try.ntmps15
                go_wp2
                go_ret
                exact ⟨by first | rfl | (simp; done) | (simp [*]; done), by repeat (first | exact Drawn0.refl _ | apply Drawn0.step)⟩
              · rw [if_neg c8] at H
                have c8b0 : (a0.toList == ([100, 111, 110, 101] : List UInt8)) = false := beq_eq_false_iff_ne.mpr c8
                have c8b1 : (a0.toList != ([100, 111, 110, 101] : List UInt8)) = true := bne_iff_ne.mpr c8
                by_cases c9 : a0.toList = ([101, 108, 115, 101] : List UInt8)
                · rw [if_pos c9] at H
                  have c9b0 : (a0.toList == ([101, 108, 115, 101] : List UInt8)) = true := beq_iff_eq.mpr c9
                  have c9b1 : (a0.toList != ([101, 108, 115, 101] : List UInt8)) = false := bne_eq_false_iff_eq.mpr c9
                  clear c9
                  obtain rfl := Option.some.inj H
                  go_enter Try.func15, Try.ntmps15
                  go_wp2
                  go_ret
                  exact ⟨by first | rfl | (simp; done) | (simp [*]; done), by repeat (first | exact Drawn0.refl _ | apply Drawn0.step)⟩
                · rw [if_neg c9] at H
                  have c9b0 : (a0.toList == ([101, 108, 115, 101] : List UInt8)) = false := beq_eq_false_iff_ne.mpr c9
                  have c9b1 : (a0.toList != ([101, 108, 115, 101] : List UInt8)) = true := bne_iff_ne.mpr c9
                  by_cases c10 : a0.toList = ([101, 115, 97, 99] : List UInt8)
                  · rw [if_pos c10] at H
                    have c10b0 : (a0.toList == ([101, 115, 97, 99] : List UInt8)) = true := beq_iff_eq.mpr c10
                    have c10b1 : (a0.toList != ([101, 115, 97, 99] : List UInt8)) = false := bne_eq_false_iff_eq.mpr c10
                    clear c10
                    obtain rfl := Option.some.inj H
                    go_enter Try.func15, Try.ntmps15
                    go_wp2
                    go_ret
                    exact ⟨by first | rfl | (simp; done) | (simp [*]; done), by repeat (first | exact Drawn0.refl _ | apply Drawn0.step)⟩
                  · rw [if_neg c10] at H
                    have c10b0 : (a0.toList == ([101, 115, 97, 99] : List UInt8)) = false := beq_eq_false_iff_ne.mpr c10
                    have c10b1 : (a0.toList != ([101, 115, 97, 99] : List UInt8)) = true := bne_iff_ne.mpr c10
                    by_cases c11 : a0.toList = ([102, 105] : List UInt8)
                    · rw [if_pos c11] at H
                      have c11b0 : (a0.toList == ([102, 105] : List UInt8)) = true := beq_iff_eq.mpr c11
                      have c11b1 : (a0.toList != ([102, 105] : List UInt8)) = false := bne_eq_false_iff_eq.mpr c11
                      clear c11
                      obtain rfl := Option.some.inj H
                      go_enter Try.func15, Try.ntmps15
                      go_wp2
                      go_ret
                      exact ⟨by first | rfl | (simp; done) | (simp [*]; done), by repeat (first | exact Drawn0.refl _ | apply Drawn0.step)⟩
                    · rw [if_neg c11] at H
                      have c11b0 : (a0.toList == ([102, 105] : List UInt8)) = false := beq_eq_false_iff_ne.mpr c11
                      have c11b1 : (a0.toList != ([102, 105] : List UInt8)) = true := bne_iff_ne.mpr c11
                      by_cases c12 : a0.toList = ([102, 111, 114] : List UInt8)
                      · rw [if_pos c12] at H
                        have c12b0 : (a0.toList == ([102, 111, 114] : List UInt8)) = true := beq_iff_eq.mpr c12
                        have c12b1 : (a0.toList != ([102, 111, 114] : List UInt8)) = false := bne_eq_false_iff_eq.mpr c12
                        clear c12
                        obtain rfl := Option.some.inj H
                        go_enter Try.func15, Try.ntmps15
                        go_wp2
                        go_ret
                        exact ⟨by first | rfl | (simp; done) | (simp [*]; done), by repeat (first | exact Drawn0.refl _ | apply Drawn0.step)⟩
                      · rw [if_neg c12] at H
                        have c12b0 : (a0.toList == ([102, 111, 114] : List UInt8)) = false := beq_eq_false_iff_ne.mpr c12
                        have c12b1 : (a0.toList != ([102, 111, 114] : List UInt8)) = true := bne_iff_ne.mpr c12
                        by_cases c13 : a0.toList = ([102, 117, 110, 99, 116, 105, 111, 110] : List UInt8)
                        · rw [if_pos c13] at H
                          have c13b0 : (a0.toList == ([102, 117, 110, 99, 116, 105, 111, 110] : List UInt8)) = true := beq_iff_eq.mpr c13
                          have c13b1 : (a0.toList != ([102, 117, 110, 99, 116, 105, 111, 110] : List UInt8)) = false := bne_eq_false_iff_eq.mpr c13
                          clear c13
                          obtain rfl := Option.some.inj H
                          go_enter Try.func15, Try.ntmps15
                          go_wp2
                          go_ret
                          exact ⟨by first | rfl | (simp; done) | (simp [*]; done), by repeat (first | exact Drawn0.refl _ | apply Drawn0.step)⟩
                        · rw [if_neg c13] at H
                          have c13b0 : (a0.toList == ([102, 117, 110, 99, 116, 105, 111, 110] : List UInt8)) = false := beq_eq_false_iff_ne.mpr c13
                          have c13b1 : (a0.toList != ([102, 117, 110, 99, 116, 105, 111, 110] : List UInt8)) = true := bne_iff_ne.mpr c13
                          by_cases c14 : a0.toList = ([105, 102] : List UInt8)
                          · rw [if_pos c14] at H
                            have c14b0 : (a0.toList == ([105, 102] : List UInt8)) = true := beq_iff_eq.mpr c14
                            have c14b1 : (a0.toList != ([105, 102] : List UInt8)) = false := bne_eq_false_iff_eq.mpr c14
                            clear c14
                            obtain rfl := Option.some.inj H
                            go_enter Try.func15, Try.ntmps15
                            go_wp2
                            go_ret
                            exact ⟨by first | rfl | (simp; done) | (simp [*]; done), by repeat (first | exact Drawn0.refl _ | apply Drawn0.step)⟩
                          · rw [if_neg c14] at H
                            have c14b0 : (a0.toList == ([105, 102] : List UInt8)) = false := beq_eq_false_iff_ne.mpr c14
                            have c14b1 : (a0.toList != ([105, 102] : List UInt8)) = true := bne_iff_ne.mpr c14
                            by_cases c15 : a0.toList = ([105, 110] : List UInt8)
                            · rw [if_pos c15] at H
                              have c15b0 : (a0.toList == ([105, 110] : List UInt8)) = true := beq_iff_eq.mpr c15
                              have c15b1 : (a0.toList != ([105, 110] : List UInt8)) = false := bne_eq_false_iff_eq.mpr c15
                              clear c15
                              obtain rfl := Option.some.inj H
                              go_enter Try.func15, Try.ntmps15
                              go_wp2
                              go_ret
                              exact ⟨by first | rfl | (simp; done) | (simp [*]; done), by repeat (first | exact Drawn0.refl _ | apply Drawn0.step)⟩
                            · rw [if_neg c15] at H
                              have c15b0 : (a0.toList == ([105, 110] : List UInt8)) = false := beq_eq_false_iff_ne.mpr c15
                              have c15b1 : (a0.toList != ([105, 110] : List UInt8)) = true := bne_iff_ne.mpr c15
                              by_cases c16 : a0.toList = ([115, 101, 108, 101, 99, 116] : List UInt8)
                              · rw [if_pos c16] at H
                                have c16b0 : (a0.toList == ([115, 101, 108, 101, 99, 116] : List UInt8)) = true := beq_iff_eq.mpr c16
                                have c16b1 : (a0.toList != ([115, 101, 108, 101, 99, 116] : List UInt8)) = false := bne_eq_false_iff_eq.mpr c16
                                clear c16
                                obtain rfl := Option.some.inj H
                                go_enter Try.func15, Try.ntmps15
                                go_wp2
                                go_ret
                                exact ⟨by first | rfl | (simp; done) | (simp [*]; done), by repeat (first | exact Drawn0.refl _ | apply Drawn0.step)⟩
                              · rw [if_neg c16] at H
                                have c16b0 : (a0.toList == ([115, 101, 108, 101, 99, 116] : List UInt8)) = false := beq_eq_false_iff_ne.mpr c16
                                have c16b1 : (a0.toList != ([115, 101, 108, 101, 99, 116] : List UInt8)) = true := bne_iff_ne.mpr c16
                                by_cases c17 : a0.toList = ([116, 104, 101, 110] : List UInt8)
                                · rw [if_pos c17] at H
                                  have c17b0 : (a0.toList == ([116, 104, 101, 110] : List UInt8)) = true := beq_iff_eq.mpr c17
                                  have c17b1 : (a0.toList != ([116, 104, 101, 110] : List UInt8)) = false := bne_eq_false_iff_eq.mpr c17
                                  clear c17
                                  obtain rfl := Option.some.inj H
                                  go_enter Try.func15, Try.ntmps15
                                  go_wp2
                                  go_ret
                                  exact ⟨by first | rfl | (simp; done) | (simp [*]; done), by repeat (first | exact Drawn0.refl _ | apply Drawn0.step)⟩
                                · rw [if_neg c17] at H
                                  have c17b0 : (a0.toList == ([116, 104, 101, 110] : List UInt8)) = false := beq_eq_false_iff_ne.mpr c17
                                  have c17b1 : (a0.toList != ([116, 104, 101, 110] : List UInt8)) = true := bne_iff_ne.mpr c17
                                  by_cases c18 : a0.toList = ([116, 105, 109, 101] : List UInt8)
                                  · rw [if_pos c18] at H
                                    have c18b0 : (a0.toList == ([116, 105, 109, 101] : List UInt8)) = true := beq_iff_eq.mpr c18
                                    have c18b1 : (a0.toList != ([116, 105, 109, 101] : List UInt8)) = false := bne_eq_false_iff_eq.mpr c18
                                    clear c18
                                    obtain rfl := Option.some.inj H
                                    go_enter Try.func15, Try.ntmps15
                                    go_wp2
                                    go_ret
                                    exact ⟨by first | rfl | (simp; done) | (simp [*]; done), by repeat (first | exact Drawn0.refl _ | apply Drawn0.step)⟩
                                  · rw [if_neg c18] at H
                                    have c18b0 : (a0.toList == ([116, 105, 109, 101] : List UInt8)) = false := beq_eq_false_iff_ne.mpr c18
                                    have c18b1 : (a0.toList != ([116, 105, 109, 101] : List UInt8)) = true := bne_iff_ne.mpr c18
                                    by_cases c19 : a0.toList = ([117, 110, 116, 105, 108] : List UInt8)
                                    · rw [if_pos c19] at H
                                      have c19b0 : (a0.toList == ([117, 110, 116, 105, 108] : List UInt8)) = true := beq_iff_eq.mpr c19
                                      have c19b1 : (a0.toList != ([117, 110, 116, 105, 108] : List UInt8)) = false := bne_eq_false_iff_eq.mpr c19
                                      clear c19
                                      obtain rfl := Option.some.inj H
                                      go_enter Try.func15, Try.ntmps15
                                      go_wp2
                                      go_ret
                                      exact ⟨by first | rfl | (simp; done) | (simp [*]; done), by repeat (first | exact Drawn0.refl _ | apply Drawn0.step)⟩
                                    · rw [if_neg c19] at H
                                      have c19b0 : (a0.toList == ([117, 110, 116, 105, 108] : List UInt8)) = false := beq_eq_false_iff_ne.mpr c19
                                      have c19b1 : (a0.toList != ([117, 110, 116, 105, 108] : List UInt8)) = true := bne_iff_ne.mpr c19
                                      by_cases c20 : a0.toList = ([119, 104, 105, 108, 101] : List UInt8)
                                      · rw [if_pos c20] at H
                                        have c20b0 : (a0.toList == ([119, 104, 105, 108, 101] : List UInt8)) = true := beq_iff_eq.mpr c20
                                        have c20b1 : (a0.toList != ([119, 104, 105, 108, 101] : List UInt8)) = false := bne_eq_false_iff_eq.mpr c20
                                        clear c20
                                        obtain rfl := Option.some.inj H
                                        go_enter Try.func15, Try.ntmps15
                                        go_wp2
                                        go_ret
                                        exact ⟨by first | rfl | (simp; done) | (simp [*]; done), by repeat (first | exact Drawn0.refl _ | apply Drawn0.step)⟩
                                      · rw [if_neg c20] at H
                                        have c20b0 : (a0.toList == ([119, 104, 105, 108, 101] : List UInt8)) = false := beq_eq_false_iff_ne.mpr c20
                                        have c20b1 : (a0.toList != ([119, 104, 105, 108, 101] : List UInt8)) = true := bne_iff_ne.mpr c20
                                        by_cases c21 : a0.toList = ([123] : List UInt8)
                                        · rw [if_pos c21] at H
                                          have c21b0 : (a0.toList == ([123] : List UInt8)) = true := beq_iff_eq.mpr c21
                                          have c21b1 : (a0.toList != ([123] : List UInt8)) = false := bne_eq_false_iff_eq.mpr c21
                                          clear c21
                                          obtain rfl := Option.some.inj H
                                          go_enter Try.func15, Try.ntmps15
                                          go_wp2
                                          go_ret
                                          exact ⟨by first | rfl | (simp; done) | (simp [*]; done), by repeat (first | exact Drawn0.refl _ | apply Drawn0.step)⟩
                                        · rw [if_neg c21] at H
                                          have c21b0 : (a0.toList == ([123] : List UInt8)) = false := beq_eq_false_iff_ne.mpr c21
                                          have c21b1 : (a0.toList != ([123] : List UInt8)) = true := bne_iff_ne.mpr c21
                                          by_cases c22 : a0.toList = ([125] : List UInt8)
                                          · rw [if_pos c22] at H
                                            have c22b0 : (a0.toList == ([125] : List UInt8)) = true := beq_iff_eq.mpr c22
                                            have c22b1 : (a0.toList != ([125] : List UInt8)) = false := bne_eq_false_iff_eq.mpr c22
                                            clear c22
                                            obtain rfl := Option.some.inj H
                                            go_enter Try.func15, Try.ntmps15
                                            go_wp2
                                            go_ret
                                            exact ⟨by first | rfl | (simp; done) | (simp [*]; done), by repeat (first | exact Drawn0.refl _ | apply Drawn0.step)⟩
                                          · rw [if_neg c22] at H
                                            have c22b0 : (a0.toList == ([125] : List UInt8)) = false := beq_eq_false_iff_ne.mpr c22
                                            have c22b1 : (a0.toList != ([125] : List UInt8)) = true := bne_iff_ne.mpr c22
                                            obtain rfl := Option.some.inj H
                                            go_enter Try.func15, Try.ntmps15
                                            go_wp2
                                            go_ret
                                            exact ⟨by first | rfl | (simp; done) | (simp [*]; done), by repeat (first | exact Drawn0.refl _ | apply Drawn0.step)⟩

/-! ### impl_IsKeyword: function 11 -/
def impl_IsKeyword.f (a0 : ByteArray) : Option (Bool) := (syntax_IsKeyword.f a0).bind fun t101 => (some t101)
set_option maxHeartbeats 8000000 in
set_option maxRecDepth 100000 in
theorem impl_IsKeyword.calls (a0 : ByteArray) (r : Bool) (w : World) (h : impl_IsKeyword.f a0 = some r) :
    Calls Try.prog 11 #[.string a0] w fun e w' => e = .returned (.bool r) ∧ Drawn0 w w' := by
  have H : ((syntax_IsKeyword.f a0).bind fun t101 => (some t101)) = some r := h
  clear h
  replace H := Option.bind_eq_some_iff.mp H
  obtain ⟨t101, A20, H⟩ := H
  replace H : (some t101) = some r := H
  have A2 := Aside0.mk A20
  clear A20
  obtain rfl := Option.some.inj H
  go_enter Try.func11, Try.ntmps11
  go_wp2_with (first | ((with_reducible refine gate_callee (f := 15) rfl ?_); refine goesL_ (some 4) rfl rfl Try.func15 (by kernel_rfl) rfl #[.string a0] rfl (by (try simp only [List.map_toArray, List.map_cons, List.map_nil]); first | done | rfl | (simp only [List.length_drop, List.length_take]; rfl)) ?_; (with_reducible refine (syntax_IsKeyword.calls a0 t101 _ A2.out).mono ?_); rintro e w' ⟨rfl, ⟨nd, rfl⟩⟩; refine ⟨_, rfl, ?_⟩))
  go_ret
  exact ⟨by first | rfl | (simp; done) | (simp [*]; done), by repeat (first | exact Drawn0.refl _ | apply Drawn0.step)⟩

/-! ### laws_FnKeywordBash: function 6 -/
def laws_FnKeywordBash.f (a0 : Int) : Option (Bool) := (some (([(⟨#[91, 91]⟩ : ByteArray), (⟨#[93, 93]⟩ : ByteArray), (⟨#[102, 117, 110, 99, 116, 105, 111, 110]⟩ : ByteArray), (⟨#[115, 101, 108, 101, 99, 116]⟩ : ByteArray), (⟨#[116, 105, 109, 101]⟩ : ByteArray), (⟨#[99, 111, 112, 114, 111, 99]⟩ : ByteArray)] : List ByteArray) : List ByteArray)).bind fun y102 => (if a0 < 0 then (some true) else (if a0 ≥ (y102.length : Int) then (some true) else (if 0 ≤ a0 then (if a0 < (y102.length : Int) then ((impl_IsKeyword.f (rdOf ByteArray.empty y102 a0)).bind fun t106 => (some t106)) else (none)) else (none))))
set_option maxHeartbeats 8000000 in
set_option maxRecDepth 100000 in
theorem laws_FnKeywordBash.calls (a0 : Int) (r : Bool) (w : World) (h : laws_FnKeywordBash.f a0 = some r) :
    Calls Try.prog 6 #[.int .i64 a0] w fun e w' => e = .returned (.bool r) ∧ Below w.heap.size w w' := by
  have HB := Aside0.mk (Below.refl w.heap.size w)
  have H : ((some (([(⟨#[91, 91]⟩ : ByteArray), (⟨#[93, 93]⟩ : ByteArray), (⟨#[102, 117, 110, 99, 116, 105, 111, 110]⟩ : ByteArray), (⟨#[115, 101, 108, 101, 99, 116]⟩ : ByteArray), (⟨#[116, 105, 109, 101]⟩ : ByteArray), (⟨#[99, 111, 112, 114, 111, 99]⟩ : ByteArray)] : List ByteArray) : List ByteArray)).bind fun y102 => (if a0 < 0 then (some true) else (if a0 ≥ (y102.length : Int) then (some true) else (if 0 ≤ a0 then (if a0 < (y102.length : Int) then ((impl_IsKeyword.f (rdOf ByteArray.empty y102 a0)).bind fun t106 => (some t106)) else (none)) else (none))))) = some r := h
  clear h
  obtain ⟨y102, hy102⟩ : ∃ y_ : List ByteArray, y_ = (([(⟨#[91, 91]⟩ : ByteArray), (⟨#[93, 93]⟩ : ByteArray), (⟨#[102, 117, 110, 99, 116, 105, 111, 110]⟩ : ByteArray), (⟨#[115, 101, 108, 101, 99, 116]⟩ : ByteArray), (⟨#[116, 105, 109, 101]⟩ : ByteArray), (⟨#[99, 111, 112, 114, 111, 99]⟩ : ByteArray)] : List ByteArray)) := ⟨_, rfl⟩
  replace H : (if a0 < 0 then (some true) else (if a0 ≥ (y102.length : Int) then (some true) else (if 0 ≤ a0 then (if a0 < (y102.length : Int) then ((impl_IsKeyword.f (rdOf ByteArray.empty y102 a0)).bind fun t106 => (some t106)) else (none)) else (none)))) = some r := by first | (rw [hy102]; with_reducible exact H) | (have H2_ := (Option.bind_some _ _).symm.trans H; rw [hy102]; with_reducible exact H2_) | (have H2_ := (Option.bind_some _ _).symm.trans H; with_reducible exact H2_) | with_reducible exact H | (rw [hy102]; exact H) | exact H
  have Ny102 := Aside0.mk hy102
  clear hy102
  by_cases c2 : a0 < 0
  · rw [if_pos c2] at H
    have c2b0 : decide (a0 < 0) = true := decide_eq_true c2
    clear c2
    obtain rfl := Option.some.inj H
    go_enter Try.func6, Try.ntmps6
    go_wp2_with (first | ((with_reducible refine gate_dst (N := 4) rfl ?_); (try (refine gate_guard (by rfl) ?_; dsimp only)); refine Kd.R_lit Kd.string _ 9 ?hg (N := 4) ?hd (xs := ([(⟨#[91, 91]⟩ : ByteArray), (⟨#[93, 93]⟩ : ByteArray), (⟨#[102, 117, 110, 99, 116, 105, 111, 110]⟩ : ByteArray), (⟨#[115, 101, 108, 101, 99, 116]⟩ : ByteArray), (⟨#[116, 105, 109, 101]⟩ : ByteArray), (⟨#[99, 111, 112, 114, 111, 99]⟩ : ByteArray)] : List ByteArray)) (inner := [.string (⟨#[91, 91]⟩ : ByteArray), .string (⟨#[93, 93]⟩ : ByteArray), .string (⟨#[102, 117, 110, 99, 116, 105, 111, 110]⟩ : ByteArray), .string (⟨#[115, 101, 108, 101, 99, 116]⟩ : ByteArray), .string (⟨#[116, 105, 109, 101]⟩ : ByteArray), .string (⟨#[99, 111, 112, 114, 111, 99]⟩ : ByteArray)]) (ok := fun _ => True) (okp := fun _ => True) ?hr ?hp (fun _ hk => hk) trivial (Below.refl _ _) (Nat.le_refl _) (by simp) ?_; (case hd => rfl); (case hg => rfl); (case hr => first | (go_simp; done) | (go_simp; rfl)); (case hp => exact (Reps.one (show Kd.M Kd.string _ _ _ (⟨#[91, 91]⟩ : ByteArray) [.string (⟨#[91, 91]⟩ : ByteArray)] from rfl) (Reps.one (show Kd.M Kd.string _ _ _ (⟨#[93, 93]⟩ : ByteArray) [.string (⟨#[93, 93]⟩ : ByteArray)] from rfl) (Reps.one (show Kd.M Kd.string _ _ _ (⟨#[102, 117, 110, 99, 116, 105, 111, 110]⟩ : ByteArray) [.string (⟨#[102, 117, 110, 99, 116, 105, 111, 110]⟩ : ByteArray)] from rfl) (Reps.one (show Kd.M Kd.string _ _ _ (⟨#[115, 101, 108, 101, 99, 116]⟩ : ByteArray) [.string (⟨#[115, 101, 108, 101, 99, 116]⟩ : ByteArray)] from rfl) (Reps.one (show Kd.M Kd.string _ _ _ (⟨#[116, 105, 109, 101]⟩ : ByteArray) [.string (⟨#[116, 105, 109, 101]⟩ : ByteArray)] from rfl) (Reps.one (show Kd.M Kd.string _ _ _ (⟨#[99, 111, 112, 114, 111, 99]⟩ : ByteArray) [.string (⟨#[99, 111, 112, 114, 111, 99]⟩ : ByteArray)] from rfl) (Reps.none _ _)))))))); intro v103 w3 ho4 hb hg_ hnew_; clear hg_ hnew_; (first | rw [← Ny102.out] at ho4 | (simp only [Int.reduceToNat] at ho4; rw [← Ny102.out] at ho4)); have n0_ := Aside0.mk (Kd.R_lower ho4 (below_size (by repeat (first | (with_reducible first | exact HB.out | apply below_alloc | apply pw_below_drewN | apply below_drew1) | exact HB.out)))); have n1_ := Aside0.mk (below_step (by repeat (first | (with_reducible first | exact HB.out | apply below_alloc | apply pw_below_drewN | apply below_drew1) | exact HB.out)) hb); clear HB; have HO104 := n0_; have HB := n1_; clear n0_ n1_; clear hb ho4))
    go_ret
    exact ⟨by first | rfl | (simp [errW_none, errW_some] <;> rfl) | (simp [*, errW_none, errW_some] <;> rfl), by repeat (first | (with_reducible first | exact HB.out | apply below_alloc | apply pw_below_drewN | apply below_drew1) | exact HB.out)⟩
  · rw [if_neg c2] at H
    have c2b0 : decide (a0 < 0) = false := decide_eq_false c2
    clear c2
    by_cases c5 : a0 ≥ (y102.length : Int)
    · rw [if_pos c5] at H
      have c5b0 : decide ((y102.length : Int) ≤ a0) = true := decide_eq_true c5
      clear c5
      obtain rfl := Option.some.inj H
      go_enter Try.func6, Try.ntmps6
      go_wp2_with (first | ((with_reducible refine gate_dst (N := 4) rfl ?_); (try (refine gate_guard (by rfl) ?_; dsimp only)); refine Kd.R_lit Kd.string _ 9 ?hg (N := 4) ?hd (xs := ([(⟨#[91, 91]⟩ : ByteArray), (⟨#[93, 93]⟩ : ByteArray), (⟨#[102, 117, 110, 99, 116, 105, 111, 110]⟩ : ByteArray), (⟨#[115, 101, 108, 101, 99, 116]⟩ : ByteArray), (⟨#[116, 105, 109, 101]⟩ : ByteArray), (⟨#[99, 111, 112, 114, 111, 99]⟩ : ByteArray)] : List ByteArray)) (inner := [.string (⟨#[91, 91]⟩ : ByteArray), .string (⟨#[93, 93]⟩ : ByteArray), .string (⟨#[102, 117, 110, 99, 116, 105, 111, 110]⟩ : ByteArray), .string (⟨#[115, 101, 108, 101, 99, 116]⟩ : ByteArray), .string (⟨#[116, 105, 109, 101]⟩ : ByteArray), .string (⟨#[99, 111, 112, 114, 111, 99]⟩ : ByteArray)]) (ok := fun _ => True) (okp := fun _ => True) ?hr ?hp (fun _ hk => hk) trivial (Below.refl _ _) (Nat.le_refl _) (by simp) ?_; (case hd => rfl); (case hg => rfl); (case hr => first | (go_simp; done) | (go_simp; rfl)); (case hp => exact (Reps.one (show Kd.M Kd.string _ _ _ (⟨#[91, 91]⟩ : ByteArray) [.string (⟨#[91, 91]⟩ : ByteArray)] from rfl) (Reps.one (show Kd.M Kd.string _ _ _ (⟨#[93, 93]⟩ : ByteArray) [.string (⟨#[93, 93]⟩ : ByteArray)] from rfl) (Reps.one (show Kd.M Kd.string _ _ _ (⟨#[102, 117, 110, 99, 116, 105, 111, 110]⟩ : ByteArray) [.string (⟨#[102, 117, 110, 99, 116, 105, 111, 110]⟩ : ByteArray)] from rfl) (Reps.one (show Kd.M Kd.string _ _ _ (⟨#[115, 101, 108, 101, 99, 116]⟩ : ByteArray) [.string (⟨#[115, 101, 108, 101, 99, 116]⟩ : ByteArray)] from rfl) (Reps.one (show Kd.M Kd.string _ _ _ (⟨#[116, 105, 109, 101]⟩ : ByteArray) [.string (⟨#[116, 105, 109, 101]⟩ : ByteArray)] from rfl) (Reps.one (show Kd.M Kd.string _ _ _ (⟨#[99, 111, 112, 114, 111, 99]⟩ : ByteArray) [.string (⟨#[99, 111, 112, 114, 111, 99]⟩ : ByteArray)] from rfl) (Reps.none _ _)))))))); intro v103 w6 ho7 hb hg_ hnew_; clear hg_ hnew_; (first | rw [← Ny102.out] at ho7 | (simp only [Int.reduceToNat] at ho7; rw [← Ny102.out] at ho7)); have n0_ := Aside0.mk (Kd.R_lower ho7 (below_size (by repeat (first | (with_reducible first | exact HB.out | apply below_alloc | apply pw_below_drewN | apply below_drew1) | exact HB.out)))); have n1_ := Aside0.mk (below_step (by repeat (first | (with_reducible first | exact HB.out | apply below_alloc | apply pw_below_drewN | apply below_drew1) | exact HB.out)) hb); clear HB; have HO104 := n0_; have HB := n1_; clear n0_ n1_; clear hb ho7; obtain ⟨Ao8, co8, eo8⟩ := Kd.R_slice HO104.out; subst eo8))
      go_ret
      exact ⟨by first | rfl | (simp [errW_none, errW_some] <;> rfl) | (simp [*, errW_none, errW_some] <;> rfl), by repeat (first | (with_reducible first | exact HB.out | apply below_alloc | apply pw_below_drewN | apply below_drew1) | exact HB.out)⟩
    · rw [if_neg c5] at H
      have c5b0 : decide ((y102.length : Int) ≤ a0) = false := decide_eq_false c5
      clear c5
      by_cases c9 : 0 ≤ a0
      · rw [if_pos c9] at H
        have c9b0 : decide (0 ≤ a0) = true := decide_eq_true c9
        clear c9
        by_cases c10 : a0 < (y102.length : Int)
        · rw [if_pos c10] at H
          have c10b0 : decide (a0 < (y102.length : Int)) = true := decide_eq_true c10
          clear c10
          replace H := Option.bind_eq_some_iff.mp H
          obtain ⟨t106, A110, H⟩ := H
          replace H : (some t106) = some r := H
          have A11 := Aside0.mk A110
          clear A110
          obtain rfl := Option.some.inj H
          go_enter Try.func6, Try.ntmps6
          go_wp2_with (first | ((with_reducible refine gate_dst (N := 4) rfl ?_); (try (refine gate_guard (by rfl) ?_; dsimp only)); refine Kd.R_lit Kd.string _ 9 ?hg (N := 4) ?hd (xs := ([(⟨#[91, 91]⟩ : ByteArray), (⟨#[93, 93]⟩ : ByteArray), (⟨#[102, 117, 110, 99, 116, 105, 111, 110]⟩ : ByteArray), (⟨#[115, 101, 108, 101, 99, 116]⟩ : ByteArray), (⟨#[116, 105, 109, 101]⟩ : ByteArray), (⟨#[99, 111, 112, 114, 111, 99]⟩ : ByteArray)] : List ByteArray)) (inner := [.string (⟨#[91, 91]⟩ : ByteArray), .string (⟨#[93, 93]⟩ : ByteArray), .string (⟨#[102, 117, 110, 99, 116, 105, 111, 110]⟩ : ByteArray), .string (⟨#[115, 101, 108, 101, 99, 116]⟩ : ByteArray), .string (⟨#[116, 105, 109, 101]⟩ : ByteArray), .string (⟨#[99, 111, 112, 114, 111, 99]⟩ : ByteArray)]) (ok := fun _ => True) (okp := fun _ => True) ?hr ?hp (fun _ hk => hk) trivial (Below.refl _ _) (Nat.le_refl _) (by simp) ?_; (case hd => rfl); (case hg => rfl); (case hr => first | (go_simp; done) | (go_simp; rfl)); (case hp => exact (Reps.one (show Kd.M Kd.string _ _ _ (⟨#[91, 91]⟩ : ByteArray) [.string (⟨#[91, 91]⟩ : ByteArray)] from rfl) (Reps.one (show Kd.M Kd.string _ _ _ (⟨#[93, 93]⟩ : ByteArray) [.string (⟨#[93, 93]⟩ : ByteArray)] from rfl) (Reps.one (show Kd.M Kd.string _ _ _ (⟨#[102, 117, 110, 99, 116, 105, 111, 110]⟩ : ByteArray) [.string (⟨#[102, 117, 110, 99, 116, 105, 111, 110]⟩ : ByteArray)] from rfl) (Reps.one (show Kd.M Kd.string _ _ _ (⟨#[115, 101, 108, 101, 99, 116]⟩ : ByteArray) [.string (⟨#[115, 101, 108, 101, 99, 116]⟩ : ByteArray)] from rfl) (Reps.one (show Kd.M Kd.string _ _ _ (⟨#[116, 105, 109, 101]⟩ : ByteArray) [.string (⟨#[116, 105, 109, 101]⟩ : ByteArray)] from rfl) (Reps.one (show Kd.M Kd.string _ _ _ (⟨#[99, 111, 112, 114, 111, 99]⟩ : ByteArray) [.string (⟨#[99, 111, 112, 114, 111, 99]⟩ : ByteArray)] from rfl) (Reps.none _ _)))))))); intro v103 w12 ho13 hb hg_ hnew_; clear hg_ hnew_; (first | rw [← Ny102.out] at ho13 | (simp only [Int.reduceToNat] at ho13; rw [← Ny102.out] at ho13)); have n0_ := Aside0.mk (Kd.R_lower ho13 (below_size (by repeat (first | (with_reducible first | exact HB.out | apply below_alloc | apply pw_below_drewN | apply below_drew1) | exact HB.out)))); have n1_ := Aside0.mk (below_step (by repeat (first | (with_reducible first | exact HB.out | apply below_alloc | apply pw_below_drewN | apply below_drew1) | exact HB.out)) hb); clear HB; have HO104 := n0_; have HB := n1_; clear n0_ n1_; clear hb ho13; obtain ⟨Ao14, co14, eo14⟩ := Kd.R_slice HO104.out; subst eo14; have p105 : 0 ≤ (a0 : Int) := of_decide_eq_true (by first | (with_reducible assumption) | assumption); have q105 : a0 < (y102.length : Int) := of_decide_eq_true (by first | (with_reducible assumption) | assumption); obtain ⟨ad105, e105, hx105_0⟩ := Kd.at_string (Kd.R_reads' HO104.out).2.2 a0 p105 q105; cases e105; replace p105 := eq_true p105; replace q105 := eq_true q105) | ((with_reducible refine gate_callee (f := 11) rfl ?_); refine goesL_ (some 17) rfl rfl Try.func11 (by kernel_rfl) rfl #[.string (rdOf ByteArray.empty y102 a0)] rfl (by (try simp only [List.map_toArray, List.map_cons, List.map_nil]); first | done | rfl | (simp only [List.length_drop, List.length_take]; rfl)) ?_; (with_reducible refine (impl_IsKeyword.calls (rdOf ByteArray.empty y102 a0) t106 _ A11.out).mono ?_); rintro e w' ⟨rfl, ⟨nd, rfl⟩⟩; refine ⟨_, rfl, ?_⟩))
          go_ret
          exact ⟨by first | rfl | (simp [errW_none, errW_some] <;> rfl) | (simp [*, errW_none, errW_some] <;> rfl), by repeat (first | (with_reducible first | exact HB.out | apply below_alloc | apply pw_below_drewN | apply below_drew1) | exact HB.out)⟩
        · rw [if_neg c10] at H
          exact absurd H (by simp)
      · rw [if_neg c9] at H
        exact absurd H (by simp)

/-- THE ONE PURE STATEMENT of laws_FnKeywordBash: yours. -/
def laws_FnKeywordBash.Pure : Prop := ∀ (a0 : Int), (Lit.int .i64 a0).wf = true → laws_FnKeywordBash.f a0 = some true
theorem laws_FnKeywordBash.walk (P : laws_FnKeywordBash.Pure) (a0 : Int) (w : World) (w0 : (Lit.int .i64 a0).wf = true) :
    Calls Try.prog 6 #[.int .i64 a0] w fun e w' => e = .returned (.bool true) ∧ Below w.heap.size w w' := by
  have h := P a0 w0
  refine (laws_FnKeywordBash.calls a0 true w h).mono ?_
  rintro e w' ⟨rfl, hd⟩
  exact ⟨rfl, hd⟩

end Go.Proofs.Ytcamdmkaahgihaa.PFnKeywordBash
