-- PRINTED BY print.sh 35421559b90ae4d0a3588c463048766b98c2df88dd9212a6774a882060cdf62d: not written by this session
import Derived.Test.YtcamdmkaahgihaaPFnKeywordNonex0
namespace Go.Proofs.Ytcamdmkaahgihaa.PFnKeywordNone
open Go.RowKit Go.Proofs.YtcamdmkaahgihaaW.PrintWords Go.Proofs.YtcamdmkaahgihaaW.PrintLast Go.Proofs.YtcamdmkaahgihaaW.PrintMore
attribute [local go_sem] max2_int min2_int max_two min_two max_three min_three max_four min_four   -- for this text's walks alone
set_option linter.unusedVariables false
set_option linter.unusedSimpArgs false

/-! ### syntax_IsKeyword: function 15 -/
def syntax_IsKeyword.f (a0 : ByteArray) : Option (Bool) := if a0.toList = ([33] : List UInt8) then (some true) else (if a0.toList = ([91, 91] : List UInt8) then (some true) else (if a0.toList = ([93, 93] : List UInt8) then (some true) else (if a0.toList = ([99, 97, 115, 101] : List UInt8) then (some true) else (if a0.toList = ([99, 111, 112, 114, 111, 99] : List UInt8) then (some true) else (if a0.toList = ([100, 111] : List UInt8) then (some true) else (if a0.toList = ([100, 111, 110, 101] : List UInt8) then (some true) else (if a0.toList = ([101, 108, 115, 101] : List UInt8) then (some true) else (if a0.toList = ([101, 115, 97, 99] : List UInt8) then (some true) else (if a0.toList = ([102, 105] : List UInt8) then (some true) else (if a0.toList = ([102, 111, 114] : List UInt8) then (some true) else (if a0.toList = ([102, 117, 110, 99, 116, 105, 111, 110] : List UInt8) then (some true) else (if a0.toList = ([105, 102] : List UInt8) then (some true) else (if a0.toList = ([105, 110] : List UInt8) then (some true) else (if a0.toList = ([115, 101, 108, 101, 99, 116] : List UInt8) then (some true) else (if a0.toList = ([116, 104, 101, 110] : List UInt8) then (some true) else (if a0.toList = ([116, 105, 109, 101] : List UInt8) then (some true) else (if a0.toList = ([117, 110, 116, 105, 108] : List UInt8) then (some true) else (if a0.toList = ([119, 104, 105, 108, 101] : List UInt8) then (some true) else (if a0.toList = ([123] : List UInt8) then (some true) else (if a0.toList = ([125] : List UInt8) then (some true) else (some false)))))))))))))))))))))
set_option maxHeartbeats 8000000 in
set_option maxRecDepth 100000 in
theorem syntax_IsKeyword.calls (a0 : ByteArray) (r : Bool) (w : World) (h : syntax_IsKeyword.f a0 = some r) :
    Calls Try.prog 15 #[.string a0] w fun e w' => e = .returned (.bool r) ∧ Drawn0 w w' := by
  have H : (if a0.toList = ([33] : List UInt8) then (some true) else (if a0.toList = ([91, 91] : List UInt8) then (some true) else (if a0.toList = ([93, 93] : List UInt8) then (some true) else (if a0.toList = ([99, 97, 115, 101] : List UInt8) then (some true) else (if a0.toList = ([99, 111, 112, 114, 111, 99] : List UInt8) then (some true) else (if a0.toList = ([100, 111] : List UInt8) then (some true) else (if a0.toList = ([100, 111, 110, 101] : List UInt8) then (some true) else (if a0.toList = ([101, 108, 115, 101] : List UInt8) then (some true) else (if a0.toList = ([101, 115, 97, 99] : List UInt8) then (some true) else (if a0.toList = ([102, 105] : List UInt8) then (some true) else (if a0.toList = ([102, 111, 114] : List UInt8) then (some true) else (if a0.toList = ([102, 117, 110, 99, 116, 105, 111, 110] : List UInt8) then (some true) else (if a0.toList = ([105, 102] : List UInt8) then (some true) else (if a0.toList = ([105, 110] : List UInt8) then (some true) else (if a0.toList = ([115, 101, 108, 101, 99, 116] : List UInt8) then (some true) else (if a0.toList = ([116, 104, 101, 110] : List UInt8) then (some true) else (if a0.toList = ([116, 105, 109, 101] : List UInt8) then (some true) else (if a0.toList = ([117, 110, 116, 105, 108] : List UInt8) then (some true) else (if a0.toList = ([119, 104, 105, 108, 101] : List UInt8) then (some true) else (if a0.toList = ([123] : List UInt8) then (some true) else (if a0.toList = ([125] : List UInt8) then (some true) else (some false)))))))))))))))))))))) = some r := h
  clear h
  by_cases c2 : a0.toList = ([33] : List UInt8)
  · rw [if_pos c2] at H
    have c2b0 : (a0.toList == ([33] : List UInt8)) = true := beq_iff_eq.mpr c2
    have c2b1 : (a0.toList != ([33] : List UInt8)) = false := bne_eq_false_iff_eq.mpr c2
    clear c2
    obtain rfl := Option.some.inj H
    go_enter Try.func15, Try.ntmps15
    go_wp2
    go_ret
    exact ⟨by first | rfl | (simp; done) | (simp [*]; done), by repeat (first | exact Drawn0.refl _ | apply Drawn0.step)⟩
  · rw [if_neg c2] at H
    have c2b0 : (a0.toList == ([33] : List UInt8)) = false := beq_eq_false_iff_ne.mpr c2
    have c2b1 : (a0.toList != ([33] : List UInt8)) = true := bne_iff_ne.mpr c2
    by_cases c3 : a0.toList = ([91, 91] : List UInt8)
    · rw [if_pos c3] at H
      have c3b0 : (a0.toList == ([91, 91] : List UInt8)) = true := beq_iff_eq.mpr c3
      have c3b1 : (a0.toList != ([91, 91] : List UInt8)) = false := bne_eq_false_iff_eq.mpr c3
      clear c3
      obtain rfl := Option.some.inj H
      go_enter Try.func15, Try.ntmps15
      go_wp2
      go_ret
      exact ⟨by first | rfl | (simp; done) | (simp [*]; done), by repeat (first | exact Drawn0.refl _ | apply Drawn0.step)⟩
    · rw [if_neg c3] at H
      have c3b0 : (a0.toList == ([91, 91] : List UInt8)) = false := beq_eq_false_iff_ne.mpr c3
      have c3b1 : (a0.toList != ([91, 91] : List UInt8)) = true := bne_iff_ne.mpr c3
      by_cases c4 : a0.toList = ([93, 93] : List UInt8)
      · rw [if_pos c4] at H
        have c4b0 : (a0.toList == ([93, 93] : List UInt8)) = true := beq_iff_eq.mpr c4
        have c4b1 : (a0.toList != ([93, 93] : List UInt8)) = false := bne_eq_false_iff_eq.mpr c4
        clear c4
        obtain rfl := Option.some.inj H
        go_enter Try.func15, Try.ntmps15
        go_wp2
        go_ret
        exact ⟨by first | rfl | (simp; done) | (simp [*]; done), by repeat (first | exact Drawn0.refl _ | apply Drawn0.step)⟩
      · rw [if_neg c4] at H
        have c4b0 : (a0.toList == ([93, 93] : List UInt8)) = false := beq_eq_false_iff_ne.mpr c4
        have c4b1 : (a0.toList != ([93, 93] : List UInt8)) = true := bne_iff_ne.mpr c4
        by_cases c5 : a0.toList = ([99, 97, 115, 101] : List UInt8)
        · rw [if_pos c5] at H
          have c5b0 : (a0.toList == ([99, 97, 115, 101] : List UInt8)) = true := beq_iff_eq.mpr c5
          have c5b1 : (a0.toList != ([99, 97, 115, 101] : List UInt8)) = false := bne_eq_false_iff_eq.mpr c5
          clear c5
          obtain rfl := Option.some.inj H
          go_enter Try.func15, Try.ntmps15
          go_wp2
          go_ret
          exact ⟨by first | rfl | (simp; done) | (simp [*]; done), by repeat (first | exact Drawn0.refl _ | apply Drawn0.step)⟩
        · rw [if_neg c5] at H
          have c5b0 : (a0.toList == ([99, 97, 115, 101] : List UInt8)) = false := beq_eq_false_iff_ne.mpr c5
          have c5b1 : (a0.toList != ([99, 97, 115, 101] : List UInt8)) = true := bne_iff_ne.mpr c5
          by_cases c6 : a0.toList = ([99, 111, 112, 114, 111, 99] : List UInt8)
          · rw [if_pos c6] at H
            have c6b0 : (a0.toList == ([99, 111, 112, 114, 111, 99] : List UInt8)) = true := beq_iff_eq.mpr c6
            have c6b1 : (a0.toList != ([99, 111, 112, 114, 111, 99] : List UInt8)) = false := bne_eq_false_iff_eq.mpr c6
            clear c6
            obtain rfl := Option.some.inj H
            go_enter Try.func15, Try.ntmps15
            go_wp2
            go_ret
            exact ⟨by first | rfl | (simp; done) | (simp [*]; done), by repeat (first | exact Drawn0.refl _ | apply Drawn0.step)⟩
          · rw [if_neg c6] at H
            have c6b0 : (a0.toList == ([99, 111, 112, 114, 111, 99] : List UInt8)) = false := beq_eq_false_iff_ne.mpr c6
            have c6b1 : (a0.toList != ([99, 111, 112, 114, 111, 99] : List UInt8)) = true := bne_iff_ne.mpr c6
            by_cases c7 : a0.toList = ([100, 111] : List UInt8)
            · rw [if_pos c7] at H
              have c7b0 : (a0.toList == ([100, 111] : List UInt8)) = true := beq_iff_eq.mpr c7
              have c7b1 : (a0.toList != ([100, 111] : List UInt8)) = false := bne_eq_false_iff_eq.mpr c7
              clear c7
              obtain rfl := Option.some.inj H
              go_enter Try.func15, Try.ntmps15
              go_wp2
              go_ret
              exact ⟨by first | rfl | (simp; done) | (simp [*]; done), by repeat (first | exact Drawn0.refl _ | apply Drawn0.step)⟩
            · rw [if_neg c7] at H
              have c7b0 : (a0.toList == ([100, 111] : List UInt8)) = false := beq_eq_false_iff_ne.mpr c7
              have c7b1 : (a0.toList != ([100, 111] : List UInt8)) = true := bne_iff_ne.mpr c7
              by_cases c8 : a0.toList = ([100, 111, 110, 101] : List UInt8)
              · rw [if_pos c8] at H
                have c8b0 : (a0.toList == ([100, 111, 110, 101] : List UInt8)) = true := beq_iff_eq.mpr c8
                have c8b1 : (a0.toList != ([100, 111, 110, 101] : List UInt8)) = false := bne_eq_false_iff_eq.mpr c8
                clear c8
                obtain rfl := Option.some.inj H
                go_enter Try.func15, Try.ntmps15
                go_wp2
                go_ret
                exact ⟨by first | rfl | (simp; done) | (simp [*]; done), by repeat (first | exact Drawn0.refl _ | apply Drawn0.step)⟩
              · rw [if_neg c8] at H
                have c8b0 : (a0.toList == ([100, 111, 110, 101] : List UInt8)) = false := beq_eq_false_iff_ne.mpr c8
                have c8b1 : (a0.toList != ([100, 111, 110, 101] : List UInt8)) = true := bne_iff_ne.mpr c8
                by_cases c9 : a0.toList = ([101, 108, 115, 101] : List UInt8)
                · rw [if_pos c9] at H
                  have c9b0 : (a0.toList == ([101, 108, 115, 101] : List UInt8)) = true := beq_iff_eq.mpr c9
                  have c9b1 : (a0.toList != ([101, 108, 115, 101] : List UInt8)) = false := bne_eq_false_iff_eq.mpr c9
                  clear c9
                  obtain rfl := Option.some.inj H
                  go_enter Try.func15, Try.ntmps15
                  go_wp2
                  go_ret
                  exact ⟨by first | rfl | (simp; done) | (simp [*]; done), by repeat (first | exact Drawn0.refl _ | apply Drawn0.step)⟩
                · rw [if_neg c9] at H
                  have c9b0 : (a0.toList == ([101, 108, 115, 101] : List UInt8)) = false := beq_eq_false_iff_ne.mpr c9
                  have c9b1 : (a0.toList != ([101, 108, 115, 101] : List UInt8)) = true := bne_iff_ne.mpr c9
                  by_cases c10 : a0.toList = ([101, 115, 97, 99] : List UInt8)
                  · rw [if_pos c10] at H
                    have c10b0 : (a0.toList == ([101, 115, 97, 99] : List UInt8)) = true := beq_iff_eq.mpr c10
                    have c10b1 : (a0.toList != ([101, 115, 97, 99] : List UInt8)) = false := bne_eq_false_iff_eq.mpr c10
                    clear c10
                    obtain rfl := Option.some.inj H
                    go_enter Try.func15, Try.ntmps15
                    go_wp2
                    go_ret
                    exact ⟨by first | rfl | (simp; done) | (simp [*]; done), by repeat (first | exact Drawn0.refl _ | apply Drawn0.step)⟩
                  · rw [if_neg c10] at H
                    have c10b0 : (a0.toList == ([101, 115, 97, 99] : List UInt8)) = false := beq_eq_false_iff_ne.mpr c10
                    have c10b1 : (a0.toList != ([101, 115, 97, 99] : List UInt8)) = true := bne_iff_ne.mpr c10
                    by_cases c11 : a0.toList = ([102, 105] : List UInt8)
                    · rw [if_pos c11] at H
                      have c11b0 : (a0.toList == ([102, 105] : List UInt8)) = true := beq_iff_eq.mpr c11
                      have c11b1 : (a0.toList != ([102, 105] : List UInt8)) = false := bne_eq_false_iff_eq.mpr c11
                      clear c11
                      obtain rfl := Option.some.inj H
                      go_enter Try.func15, Try.ntmps15
                      go_wp2
                      go_ret
                      exact ⟨by first | rfl | (simp; done) | (simp [*]; done), by repeat (first | exact Drawn0.refl _ | apply Drawn0.step)⟩
                    · rw [if_neg c11] at H
                      have c11b0 : (a0.toList == ([102, 105] : List UInt8)) = false := beq_eq_false_iff_ne.mpr c11
                      have c11b1 : (a0.toList != ([102, 105] : List UInt8)) = true := bne_iff_ne.mpr c11
                      by_cases c12 : a0.toList = ([102, 111, 114] : List UInt8)
                      · rw [if_pos c12] at H
                        have c12b0 : (a0.toList == ([102, 111, 114] : List UInt8)) = true := beq_iff_eq.mpr c12
                        have c12b1 : (a0.toList != ([102, 111, 114] : List UInt8)) = false := bne_eq_false_iff_eq.mpr c12
                        clear c12
                        obtain rfl := Option.some.inj H
                        go_enter Try.func15, Try.ntmps15
                        go_wp2
                        go_ret
                        exact ⟨by first | rfl | (simp; done) | (simp [*]; done), by repeat (first | exact Drawn0.refl _ | apply Drawn0.step)⟩
                      · rw [if_neg c12] at H
                        have c12b0 : (a0.toList == ([102, 111, 114] : List UInt8)) = false := beq_eq_false_iff_ne.mpr c12
                        have c12b1 : (a0.toList != ([102, 111, 114] : List UInt8)) = true := bne_iff_ne.mpr c12
                        by_cases c13 : a0.toList = ([102, 117, 110, 99, 116, 105, 111, 110] : List UInt8)
                        · rw [if_pos c13] at H
                          have c13b0 : (a0.toList == ([102, 117, 110, 99, 116, 105, 111, 110] : List UInt8)) = true := beq_iff_eq.mpr c13
                          have c13b1 : (a0.toList != ([102, 117, 110, 99, 116, 105, 111, 110] : List UInt8)) = false := bne_eq_false_iff_eq.mpr c13
                          clear c13
                          obtain rfl := Option.some.inj H
                          go_enter Try.func15, Try.ntmps15
                          go_wp2
                          go_ret
                          exact ⟨by first | rfl | (simp; done) | (simp [*]; done), by repeat (first | exact Drawn0.refl _ | apply Drawn0.step)⟩
                        · rw [if_neg c13] at H
                          have c13b0 : (a0.toList == ([102, 117, 110, 99, 116, 105, 111, 110] : List UInt8)) = false := beq_eq_false_iff_ne.mpr c13
                          have c13b1 : (a0.toList != ([102, 117, 110, 99, 116, 105, 111, 110] : List UInt8)) = true := bne_iff_ne.mpr c13
                          by_cases c14 : a0.toList = ([105, 102] : List UInt8)
                          · rw [if_pos c14] at H
                            have c14b0 : (a0.toList == ([105, 102] : List UInt8)) = true := beq_iff_eq.mpr c14
                            have c14b1 : (a0.toList != ([105, 102] : List UInt8)) = false := bne_eq_false_iff_eq.mpr c14
                            clear c14
                            obtain rfl := Option.some.inj H
                            go_enter Try.func15, Try.ntmps15
                            go_wp2
                            go_ret
                            exact ⟨by first | rfl | (simp; done) | (simp [*]; done), by repeat (first | exact Drawn0.refl _ | apply Drawn0.step)⟩
                          · rw [if_neg c14] at H
                            have c14b0 : (a0.toList == ([105, 102] : List UInt8)) = false := beq_eq_false_iff_ne.mpr c14
                            have c14b1 : (a0.toList != ([105, 102] : List UInt8)) = true := bne_iff_ne.mpr c14
                            by_cases c15 : a0.toList = ([105, 110] : List UInt8)
                            · rw [if_pos c15] at H
                              have c15b0 : (a0.toList == ([105, 110] : List UInt8)) = true := beq_iff_eq.mpr c15
                              have c15b1 : (a0.toList != ([105, 110] : List UInt8)) = false := bne_eq_false_iff_eq.mpr c15
                              clear c15
                              obtain rfl := Option.some.inj H
                              go_enter Try.func15, Try.ntmps15
                              go_wp2
                              go_ret
                              exact ⟨by first | rfl | (simp; done) | (simp [*]; done), by repeat (first | exact Drawn0.refl _ | apply Drawn0.step)⟩
                            · rw [if_neg c15] at H
                              have c15b0 : (a0.toList == ([105, 110] : List UInt8)) = false := beq_eq_false_iff_ne.mpr c15
                              have c15b1 : (a0.toList != ([105, 110] : List UInt8)) = true := bne_iff_ne.mpr c15
                              by_cases c16 : a0.toList = ([115, 101, 108, 101, 99, 116] : List UInt8)
                              · rw [if_pos c16] at H
                                have c16b0 : (a0.toList == ([115, 101, 108, 101, 99, 116] : List UInt8)) = true := beq_iff_eq.mpr c16
                                have c16b1 : (a0.toList != ([115, 101, 108, 101, 99, 116] : List UInt8)) = false := bne_eq_false_iff_eq.mpr c16
                                clear c16
                                obtain rfl := Option.some.inj H
                                go_enter Try.func15, Try.ntmps15
                                go_wp2
                                go_ret
                                exact ⟨by first | rfl | (simp; done) | (simp [*]; done), by repeat (first | exact Drawn0.refl _ | apply Drawn0.step)⟩
                              · rw [if_neg c16] at H
                                have c16b0 : (a0.toList == ([115, 101, 108, 101, 99, 116] : List UInt8)) = false := beq_eq_false_iff_ne.mpr c16
                                have c16b1 : (a0.toList != ([115, 101, 108, 101, 99, 116] : List UInt8)) = true := bne_iff_ne.mpr c16
                                by_cases c17 : a0.toList = ([116, 104, 101, 110] : List UInt8)
                                · rw [if_pos c17] at H
                                  have c17b0 : (a0.toList == ([116, 104, 101, 110] : List UInt8)) = true := beq_iff_eq.mpr c17
                                  have c17b1 : (a0.toList != ([116, 104, 101, 110] : List UInt8)) = false := bne_eq_false_iff_eq.mpr c17
                                  clear c17
                                  obtain rfl := Option.some.inj H
                                  go_enter Try.func15, Try.ntmps15
                                  go_wp2
                                  go_ret
                                  exact ⟨by first | rfl | (simp; done) | (simp [*]; done), by repeat (first | exact Drawn0.refl _ | apply Drawn0.step)⟩
                                · rw [if_neg c17] at H
                                  have c17b0 : (a0.toList == ([116, 104, 101, 110] : List UInt8)) = false := beq_eq_false_iff_ne.mpr c17
                                  have c17b1 : (a0.toList != ([116, 104, 101, 110] : List UInt8)) = true := bne_iff_ne.mpr c17
                                  by_cases c18 : a0.toList = ([116, 105, 109, 101] : List UInt8)
                                  · rw [if_pos c18] at H
                                    have c18b0 : (a0.toList == ([116, 105, 109, 101] : List UInt8)) = true := beq_iff_eq.mpr c18
                                    have c18b1 : (a0.toList != ([116, 105, 109, 101] : List UInt8)) = false := bne_eq_false_iff_eq.mpr c18
                                    clear c18
                                    obtain rfl := Option.some.inj H
                                    go_enter Try.func15, Try.ntmps15
                                    go_wp2
                                    go_ret
                                    exact ⟨by first | rfl | (simp; done) | (simp [*]; done), by repeat (first | exact Drawn0.refl _ | apply Drawn0.step)⟩
                                  · rw [if_neg c18] at H
                                    have c18b0 : (a0.toList == ([116, 105, 109, 101] : List UInt8)) = false := beq_eq_false_iff_ne.mpr c18
                                    have c18b1 : (a0.toList != ([116, 105, 109, 101] : List UInt8)) = true := bne_iff_ne.mpr c18
                                    by_cases c19 : a0.toList = ([117, 110, 116, 105, 108] : List UInt8)
                                    · rw [if_pos c19] at H
                                      have c19b0 : (a0.toList == ([117, 110, 116, 105, 108] : List UInt8)) = true := beq_iff_eq.mpr c19
                                      have c19b1 : (a0.toList != ([117, 110, 116, 105, 108] : List UInt8)) = false := bne_eq_false_iff_eq.mpr c19
                                      clear c19
                                      obtain rfl := Option.some.inj H
                                      go_enter Try.func15, Try.ntmps15
                                      go_wp2
                                      go_ret
                                      exact ⟨by first | rfl | (simp; done) | (simp [*]; done), by repeat (first | exact Drawn0.refl _ | apply Drawn0.step)⟩
                                    · rw [if_neg c19] at H
                                      have c19b0 : (a0.toList == ([117, 110, 116, 105, 108] : List UInt8)) = false := beq_eq_false_iff_ne.mpr c19
                                      have c19b1 : (a0.toList != ([117, 110, 116, 105, 108] : List UInt8)) = true := bne_iff_ne.mpr c19
                                      by_cases c20 : a0.toList = ([119, 104, 105, 108, 101] : List UInt8)
                                      · rw [if_pos c20] at H
                                        have c20b0 : (a0.toList == ([119, 104, 105, 108, 101] : List UInt8)) = true := beq_iff_eq.mpr c20
                                        have c20b1 : (a0.toList != ([119, 104, 105, 108, 101] : List UInt8)) = false := bne_eq_false_iff_eq.mpr c20
                                        clear c20
                                        obtain rfl := Option.some.inj H
                                        go_enter Try.func15, Try.ntmps15
                                        go_wp2
                                        go_ret
                                        exact ⟨by first | rfl | (simp; done) | (simp [*]; done), by repeat (first | exact Drawn0.refl _ | apply Drawn0.step)⟩
                                      · rw [if_neg c20] at H
                                        have c20b0 : (a0.toList == ([119, 104, 105, 108, 101] : List UInt8)) = false := beq_eq_false_iff_ne.mpr c20
                                        have c20b1 : (a0.toList != ([119, 104, 105, 108, 101] : List UInt8)) = true := bne_iff_ne.mpr c20
                                        by_cases c21 : a0.toList = ([123] : List UInt8)
                                        · rw [if_pos c21] at H
                                          have c21b0 : (a0.toList == ([123] : List UInt8)) = true := beq_iff_eq.mpr c21
                                          have c21b1 : (a0.toList != ([123] : List UInt8)) = false := bne_eq_false_iff_eq.mpr c21
                                          clear c21
                                          obtain rfl := Option.some.inj H
                                          go_enter Try.func15, Try.ntmps15
                                          go_wp2
                                          go_ret
                                          exact ⟨by first | rfl | (simp; done) | (simp [*]; done), by repeat (first | exact Drawn0.refl _ | apply Drawn0.step)⟩
                                        · rw [if_neg c21] at H
                                          have c21b0 : (a0.toList == ([123] : List UInt8)) = false := beq_eq_false_iff_ne.mpr c21
                                          have c21b1 : (a0.toList != ([123] : List UInt8)) = true := bne_iff_ne.mpr c21
                                          by_cases c22 : a0.toList = ([125] : List UInt8)
                                          · rw [if_pos c22] at H
                                            have c22b0 : (a0.toList == ([125] : List UInt8)) = true := beq_iff_eq.mpr c22
                                            have c22b1 : (a0.toList != ([125] : List UInt8)) = false := bne_eq_false_iff_eq.mpr c22
                                            clear c22
                                            obtain rfl := Option.some.inj H
                                            go_enter Try.func15, Try.ntmps15
                                            go_wp2
                                            go_ret
                                            exact ⟨by first | rfl | (simp; done) | (simp [*]; done), by repeat (first | exact Drawn0.refl _ | apply Drawn0.step)⟩
                                          · rw [if_neg c22] at H
                                            have c22b0 : (a0.toList == ([125] : List UInt8)) = false := beq_eq_false_iff_ne.mpr c22
                                            have c22b1 : (a0.toList != ([125] : List UInt8)) = true := bne_iff_ne.mpr c22
                                            obtain rfl := Option.some.inj H
                                            go_enter Try.func15, Try.ntmps15
                                            go_wp2
                                            go_ret
                                            exact ⟨by first | rfl | (simp; done) | (simp [*]; done), by repeat (first | exact Drawn0.refl _ | apply Drawn0.step)⟩

/-! ### impl_IsKeyword: function 11 -/
def impl_IsKeyword.f (a0 : ByteArray) : Option (Bool) := (syntax_IsKeyword.f a0).bind fun t101 => (some t101)
set_option maxHeartbeats 8000000 in
set_option maxRecDepth 100000 in
theorem impl_IsKeyword.calls (a0 : ByteArray) (r : Bool) (w : World) (h : impl_IsKeyword.f a0 = some r) :
    Calls Try.prog 11 #[.string a0] w fun e w' => e = .returned (.bool r) ∧ Drawn0 w w' := by
  have H : ((syntax_IsKeyword.f a0).bind fun t101 => (some t101)) = some r := h
  clear h
  replace H := Option.bind_eq_some_iff.mp H
  obtain ⟨t101, A20, H⟩ := H
  replace H : (some t101) = some r := H
  have A2 := Aside0.mk A20
  clear A20
  obtain rfl := Option.some.inj H
  go_enter Try.func11, Try.ntmps11
  go_wp2_with (first | ((with_reducible refine gate_callee (f := 15) rfl ?_); refine goesL_ (some 4) rfl rfl Try.func15 (by kernel_rfl) rfl #[.string a0] rfl (by (try simp only [List.map_toArray, List.map_cons, List.map_nil]); first | done | rfl | (simp only [List.length_drop, List.length_take]; rfl)) ?_; (with_reducible refine (syntax_IsKeyword.calls a0 t101 _ A2.out).mono ?_); rintro e w' ⟨rfl, ⟨nd, rfl⟩⟩; refine ⟨_, rfl, ?_⟩))
  go_ret
  exact ⟨by first | rfl | (simp; done) | (simp [*]; done), by repeat (first | exact Drawn0.refl _ | apply Drawn0.step)⟩

/-! ### laws_FnKeywordNone: function 7 -/
mutual
def laws_FnKeywordNone.l0 : Nat → ByteArray → Int → Option (Bool)
  | 0, _, _ => none
  | k + 1, x0, x3 => if x3 < (x0.size : Int) then (if 0 ≤ x3 then (if (bt x0 x3) ≥ 65 then (laws_FnKeywordNone.j1 k x0 x3 (decide ((bt x0 x3) ≤ 90))) else (laws_FnKeywordNone.j1 k x0 x3 false)) else (none)) else ((impl_IsKeyword.f (⟨#[105, 102]⟩ : ByteArray)).bind fun t102 => (some t102))
def laws_FnKeywordNone.j1 : Nat → ByteArray → Int → Bool → Option (Bool)
  | 0, _, _, _ => none
  | k + 1, x0, x3, x22 => if x22 = true then ((impl_IsKeyword.f x0).bind fun t103 => (if t103 = true then (some false) else ((impl_IsKeyword.f (⟨#[105, 102]⟩ : ByteArray)).bind fun t104 => (some t104)))) else (laws_FnKeywordNone.l0 k x0 (wrap64 (x3 + 1)))
end
def laws_FnKeywordNone.f (k : Nat) (a0 : ByteArray) : Option (Bool) := if (a0.size : Int) > 2147483647 then (some true) else (laws_FnKeywordNone.l0 k a0 0)
theorem laws_FnKeywordNone.mono_l : ∀ k, (∀ y0 y1, LeO (laws_FnKeywordNone.l0 k y0 y1) (laws_FnKeywordNone.l0 (k + 1) y0 y1)) ∧ (∀ y0 y1 y2, LeO (laws_FnKeywordNone.j1 k y0 y1 y2) (laws_FnKeywordNone.j1 (k + 1) y0 y1 y2))
  | 0 => ⟨fun _ _ r h => by simp [laws_FnKeywordNone.l0] at h, fun _ _ _ r h => by simp [laws_FnKeywordNone.j1] at h⟩
  | k + 1 => by
    obtain ⟨ih0, ih1⟩ := laws_FnKeywordNone.mono_l k
    refine ⟨?_, ?_⟩
    · intro y0 y1
      unfold laws_FnKeywordNone.l0
      repeat' first
      | (with_reducible exact ih0 _ _)
      | (with_reducible exact ih1 _ _ _)
      | (with_reducible exact LeO.refl _)
      | (with_reducible exact LeO.none _)
      | (with_reducible refine LeO.ite ?_ ?_)
      | (with_reducible refine LeO.bind ?_ (fun _ => ?_))
      | exact ih0 _ _
      | exact ih1 _ _ _
      | exact LeO.none _
      | refine LeO.ite ?_ ?_
      | refine LeO.bind ?_ (fun _ => ?_)
    · intro y0 y1 y2
      unfold laws_FnKeywordNone.j1
      repeat' first
      | (with_reducible exact ih0 _ _)
      | (with_reducible exact ih1 _ _ _)
      | (with_reducible exact LeO.refl _)
      | (with_reducible exact LeO.none _)
      | (with_reducible refine LeO.ite ?_ ?_)
      | (with_reducible refine LeO.bind ?_ (fun _ => ?_))
      | exact ih0 _ _
      | exact ih1 _ _ _
      | exact LeO.none _
      | refine LeO.ite ?_ ?_
      | refine LeO.bind ?_ (fun _ => ?_)
theorem laws_FnKeywordNone.mono : ∀ a0 k, LeO (laws_FnKeywordNone.f k a0) (laws_FnKeywordNone.f (k + 1) a0) := by
  intro a0 k
  obtain ⟨ih0, ih1⟩ := laws_FnKeywordNone.mono_l k
  unfold laws_FnKeywordNone.f
  repeat' first
      | (with_reducible exact ih0 _ _)
      | (with_reducible exact ih1 _ _ _)
      | (with_reducible exact LeO.refl _)
      | (with_reducible exact LeO.none _)
      | (with_reducible refine LeO.ite ?_ ?_)
      | (with_reducible refine LeO.bind ?_ (fun _ => ?_))
      | exact ih0 _ _
      | exact ih1 _ _ _
      | exact LeO.none _
      | refine LeO.ite ?_ ?_
      | refine LeO.bind ?_ (fun _ => ?_)
set_option maxHeartbeats 8000000 in
set_option maxRecDepth 100000 in
theorem laws_FnKeywordNone.calls (k : Nat) (a0 : ByteArray) (r : Bool) (w : World) (h : laws_FnKeywordNone.f k a0 = some r) :
    Calls Try.prog 7 #[.string a0] w fun e w' => e = .returned (.bool r) ∧ Drawn0 w w' := by
  have H : (if (a0.size : Int) > 2147483647 then (some true) else (laws_FnKeywordNone.l0 k a0 0)) = some r := h
  clear h
  by_cases c2 : (a0.size : Int) > 2147483647
  · rw [if_pos c2] at H
    have c2b0 : decide (2147483647 < (a0.size : Int)) = true := decide_eq_true c2
    have c2b1 : decide (2147483647 < a0.size) = true := decide_eq_true (by omega)
    clear c2
    obtain rfl := Option.some.inj H
    go_enter Try.func7, Try.ntmps7
    go_wp2
    go_ret
    exact ⟨by first | rfl | (simp; done) | (simp [*]; done), by repeat (first | exact Drawn0.refl _ | apply Drawn0.step)⟩
  · rw [if_neg c2] at H
    have c2b0 : decide (2147483647 < (a0.size : Int)) = false := decide_eq_false c2
    have c2b1 : decide (2147483647 < a0.size) = false := decide_eq_false (by omega)
    clear c2
    have H' := Aside0.mk H
    clear H
    go_enter Try.func7, Try.ntmps7
    go_wp2
    go_loopg [3] k (fun kq v3 w' => ∃ (x3_1 : Int), v3 = .int .i64 x3_1 ∧ Aside0 (laws_FnKeywordNone.l0 kq a0 x3_1 = some r) ∧ Aside0 (kq ≤ k) ∧ Drawn0 w w')
    case atStart => exact ⟨(0), (by first | rfl | (simp; done) | (simp [*]; done)), H', ⟨Nat.le_refl _⟩, by repeat (first | exact Drawn0.refl _ | apply Drawn0.step)⟩
    case round =>
      clear H'
      try clear c2
      try clear c2b0
      try clear c2b1
      try clear p2
      obtain ⟨x3_1, rfl, HA, HK1, ⟨m1, rfl⟩⟩ := hrel
      cases gk with
      | zero => exact absurd HA.out (by simp [laws_FnKeywordNone.l0])
      | succ k1 =>
        have H := HA.out
        clear HA
        simp only [laws_FnKeywordNone.l0] at H
        by_cases c3 : x3_1 < (a0.size : Int)
        · rw [if_pos c3] at H
          have c3b0 : decide (x3_1 < (a0.size : Int)) = true := decide_eq_true c3
          clear c3
          have HC4 := Aside0.mk H
          clear H
          go_upto_region 6 with (fail)
          go_cut [22] (fun v22 wc => ∃ (kq : Nat) (x22_3 : Bool), v22 = .bool x22_3 ∧ Aside0 (laws_FnKeywordNone.j1 kq a0 x3_1 x22_3 = some r) ∧ Aside0 (kq ≤ k1) ∧ Drawn0 w wc)
          case first =>
            have H := HC4.out
            clear HC4
            by_cases c5 : 0 ≤ x3_1
            · rw [if_pos c5] at H
              have c5b0 : decide (0 ≤ x3_1) = true := decide_eq_true c5
              clear c5
              (first | rw [c5b0] | (simp only [i64_w, i32_w]; rw [c5b0]) | skip)
              by_cases c7 : (bt a0 x3_1) ≥ 65
              · rw [if_pos c7] at H
                have c7b0 : decide (65 ≤ (bt a0 x3_1)) = true := decide_eq_true c7
                clear c7
                have H' := Aside0.mk H
                clear H
                have p6 : 0 ≤ (x3_1 : Int) := of_decide_eq_true (by first | (with_reducible assumption) | assumption)
                have q6 : x3_1 < (a0.size : Int) := of_decide_eq_true (by first | (with_reducible assumption) | assumption)
                have hx6 := bt_at a0 x3_1
                replace p6 := eq_true p6
                replace q6 := eq_true q6
                have p8 : 0 ≤ (x3_1 : Int) := of_decide_eq_true (by first | (with_reducible assumption) | assumption)
                have q8 : x3_1 < (a0.size : Int) := of_decide_eq_true (by first | (with_reducible assumption) | assumption)
                have hx8 := bt_at a0 x3_1
                replace p8 := eq_true p8
                replace q8 := eq_true q8
                go_wp2
                go_meet
                case rel => exact ⟨_, (decide ((bt a0 x3_1) ≤ 90)), (by first | rfl | (simp; done) | (simp [*]; done)), H', ⟨by have := HK1.out; first | omega | exact Nat.le_refl _⟩, by repeat (first | exact Drawn0.refl _ | apply Drawn0.step)⟩
              · rw [if_neg c7] at H
                have c7b0 : decide (65 ≤ (bt a0 x3_1)) = false := decide_eq_false c7
                clear c7
                have H' := Aside0.mk H
                clear H
                have p6 : 0 ≤ (x3_1 : Int) := of_decide_eq_true (by first | (with_reducible assumption) | assumption)
                have q6 : x3_1 < (a0.size : Int) := of_decide_eq_true (by first | (with_reducible assumption) | assumption)
                have hx6 := bt_at a0 x3_1
                replace p6 := eq_true p6
                replace q6 := eq_true q6
                go_wp2
                go_meet
                case rel => exact ⟨_, (false), (by first | rfl | (simp; done) | (simp [*]; done)), H', ⟨by have := HK1.out; first | omega | exact Nat.le_refl _⟩, by repeat (first | exact Drawn0.refl _ | apply Drawn0.step)⟩
            · rw [if_neg c5] at H
              exact absurd H (by simp)
          case rest =>
            clear HC4
            try clear c2
            try clear c2b0
            try clear c2b1
            try clear p2
            try clear c3
            try clear c3b0
            try clear c5
            try clear c5b0
            try clear p6
            try clear q6
            try clear hx6
            try clear c7
            try clear c7b0
            try clear p8
            try clear q8
            try clear hx8
            try clear p2
            try clear p6
            try clear p8
            try clear q6
            try clear q8
            obtain ⟨kq, x22_3, rfl, HA, HJ3, ⟨mc3, rfl⟩⟩ := hcut
            cases kq with
            | zero => exact absurd HA.out (by simp [laws_FnKeywordNone.j1])
            | succ kj3 =>
              have H := HA.out
              clear HA
              simp only [laws_FnKeywordNone.j1] at H
              by_cases c9 : x22_3 = true
              · subst c9
                have H1 : ((impl_IsKeyword.f a0).bind fun t103 => (if t103 = true then (some false) else ((impl_IsKeyword.f (⟨#[105, 102]⟩ : ByteArray)).bind fun t104 => (some t104)))) = some r := by rw [if_pos rfl] at H; exact H
                clear H
                have H := H1
                clear H1
                replace H := Option.bind_eq_some_iff.mp H
                obtain ⟨t103, A100, H⟩ := H
                replace H : (if t103 = true then (some false) else ((impl_IsKeyword.f (⟨#[105, 102]⟩ : ByteArray)).bind fun t104 => (some t104))) = some r := H
                have A10 := Aside0.mk A100
                clear A100
                by_cases c11 : t103 = true
                · subst c11
                  have H1 : (some false) = some r := by rw [if_pos rfl] at H; exact H
                  clear H
                  have H := H1
                  clear H1
                  obtain rfl := Option.some.inj H
                  go_wp2_with (first | ((with_reducible refine gate_callee (f := 11) rfl ?_); refine goesL_ (some 24) rfl rfl Try.func11 (by kernel_rfl) rfl #[.string a0] rfl (by (try simp only [List.map_toArray, List.map_cons, List.map_nil]); first | done | rfl | (simp only [List.length_drop, List.length_take]; rfl)) ?_; (with_reducible refine (impl_IsKeyword.calls a0 true _ A10.out).mono ?_); rintro e w' ⟨rfl, ⟨nd, rfl⟩⟩; refine ⟨_, rfl, ?_⟩))
                  go_ret
                  exact ⟨by first | rfl | (simp; done) | (simp [*]; done), by repeat (first | exact Drawn0.refl _ | apply Drawn0.step)⟩
                · replace c11 := Bool.eq_false_iff.mpr c11
                  subst c11
                  have H1 : ((impl_IsKeyword.f (⟨#[105, 102]⟩ : ByteArray)).bind fun t104 => (some t104)) = some r := by rw [if_neg (show ¬ (false = true) by decide)] at H; exact H
                  clear H
                  have H := H1
                  clear H1
                  replace H := Option.bind_eq_some_iff.mp H
                  obtain ⟨t104, A120, H⟩ := H
                  replace H : (some t104) = some r := H
                  have A12 := Aside0.mk A120
                  clear A120
                  obtain rfl := Option.some.inj H
                  go_wp2_with (first | ((with_reducible refine gate_callee (f := 11) rfl ?_); refine goesL_ (some 24) rfl rfl Try.func11 (by kernel_rfl) rfl #[.string a0] rfl (by (try simp only [List.map_toArray, List.map_cons, List.map_nil]); first | done | rfl | (simp only [List.length_drop, List.length_take]; rfl)) ?_; (with_reducible refine (impl_IsKeyword.calls a0 false _ A10.out).mono ?_); rintro e w' ⟨rfl, ⟨nd, rfl⟩⟩; refine ⟨_, rfl, ?_⟩) | (go_at_call 11; (with_reducible refine (impl_IsKeyword.calls (⟨#[105, 102]⟩ : ByteArray) t104 _ A12.out).mono ?_); rintro e w' ⟨rfl, ⟨nd, rfl⟩⟩))
                  go_ret
                  exact ⟨by first | rfl | (simp; done) | (simp [*]; done), by repeat (first | exact Drawn0.refl _ | apply Drawn0.step)⟩
              · replace c9 := Bool.eq_false_iff.mpr c9
                subst c9
                have H1 : (laws_FnKeywordNone.l0 kj3 a0 (wrap64 (x3_1 + 1))) = some r := by rw [if_neg (show ¬ (false = true) by decide)] at H; exact H
                clear H
                have H := H1
                clear H1
                have H' := Aside0.mk H
                clear H
                go_wp2
                go_roundg kj3
                case measure => have := HK1.out; have := HJ3.out; omega
                case rel => exact ⟨(wrap64 (x3_1 + 1)), (by first | rfl | (simp; done) | (simp [*]; done)), H', ⟨by have := HK1.out; have := HJ3.out; omega⟩, by repeat (first | exact Drawn0.refl _ | apply Drawn0.step)⟩
        · rw [if_neg c3] at H
          have c3b0 : decide (x3_1 < (a0.size : Int)) = false := decide_eq_false c3
          clear c3
          replace H := Option.bind_eq_some_iff.mp H
          obtain ⟨t102, A130, H⟩ := H
          replace H : (some t102) = some r := H
          have A13 := Aside0.mk A130
          clear A130
          obtain rfl := Option.some.inj H
          go_wp2_with (first | ((with_reducible refine gate_callee (f := 11) rfl ?_); refine goesL_ (some 29) rfl rfl Try.func11 (by kernel_rfl) rfl #[.string (⟨#[105, 102]⟩ : ByteArray)] rfl (by (try simp only [List.map_toArray, List.map_cons, List.map_nil]); first | done | rfl | (simp only [List.length_drop, List.length_take]; rfl)) ?_; (with_reducible refine (impl_IsKeyword.calls (⟨#[105, 102]⟩ : ByteArray) t102 _ A13.out).mono ?_); rintro e w' ⟨rfl, ⟨nd, rfl⟩⟩; refine ⟨_, rfl, ?_⟩))
          go_ret
          exact ⟨by first | rfl | (simp; done) | (simp [*]; done), by repeat (first | exact Drawn0.refl _ | apply Drawn0.step)⟩

/-- THE ONE PURE STATEMENT of laws_FnKeywordNone: yours. -/
def laws_FnKeywordNone.Pure : Prop := ∀ (a0 : ByteArray), a0.size ≤ 140737488351232 → ∃ k, laws_FnKeywordNone.f k a0 = some true
theorem laws_FnKeywordNone.walk (P : laws_FnKeywordNone.Pure) (a0 : ByteArray) (w : World) (w0 : a0.size ≤ 140737488351232) :
    Calls Try.prog 7 #[.string a0] w fun e w' => e = .returned (.bool true) ∧ Below w.heap.size w w' := by
  obtain ⟨k, h⟩ := P a0 w0
  refine (laws_FnKeywordNone.calls k a0 true w h).mono ?_
  rintro e w' ⟨rfl, hd⟩
  exact ⟨rfl, hd.below⟩

end Go.Proofs.Ytcamdmkaahgihaa.PFnKeywordNone
