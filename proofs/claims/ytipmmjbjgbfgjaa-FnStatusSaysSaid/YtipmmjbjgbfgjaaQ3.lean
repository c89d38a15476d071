-- Written by a program of this session out of the translation, with the kit's printer. Not trusted: Lean checks it.
import Derived.Test.YtipmmjbjgbfgjaaQ0
import Derived.Test.YtipmmjbjgbfgjaaQ2
namespace Go.Proofs.Ytipmmjbjgbfgjaa.Q
open Go.RowKit Go.Proofs.YtipmmjbjgbfgjaaW.PrintWords Go.Proofs.YtipmmjbjgbfgjaaW.PrintLast Go.Proofs.YtipmmjbjgbfgjaaW.PrintMore
attribute [local go_sem] max2_int min2_int max_two min_two max_three min_three max_four min_four   -- for this text's walks alone
set_option linter.unusedVariables false
set_option linter.unusedSimpArgs false

/-! ### spec_StatusText: function 26 -/
def spec_StatusText.f (a0 : Int) : Option (ByteArray × Int) := if a0 = 100 then (some ((⟨#[67, 111, 110, 116, 105, 110, 117, 101]⟩ : ByteArray), 1)) else (if a0 = 101 then (some ((⟨#[83, 119, 105, 116, 99, 104, 105, 110, 103, 32, 80, 114, 111, 116, 111, 99, 111, 108, 115]⟩ : ByteArray), 1)) else (if a0 = 200 then (some ((⟨#[79, 75]⟩ : ByteArray), 1)) else (if a0 = 201 then (some ((⟨#[67, 114, 101, 97, 116, 101, 100]⟩ : ByteArray), 1)) else (if a0 = 202 then (some ((⟨#[65, 99, 99, 101, 112, 116, 101, 100]⟩ : ByteArray), 1)) else (if a0 = 203 then (some ((⟨#[78, 111, 110, 45, 65, 117, 116, 104, 111, 114, 105, 116, 97, 116, 105, 118, 101, 32, 73, 110, 102, 111, 114, 109, 97, 116, 105, 111, 110]⟩ : ByteArray), 1)) else (if a0 = 204 then (some ((⟨#[78, 111, 32, 67, 111, 110, 116, 101, 110, 116]⟩ : ByteArray), 1)) else (if a0 = 205 then (some ((⟨#[82, 101, 115, 101, 116, 32, 67, 111, 110, 116, 101, 110, 116]⟩ : ByteArray), 1)) else (if a0 = 206 then (some ((⟨#[80, 97, 114, 116, 105, 97, 108, 32, 67, 111, 110, 116, 101, 110, 116]⟩ : ByteArray), 1)) else (if a0 = 300 then (some ((⟨#[77, 117, 108, 116, 105, 112, 108, 101, 32, 67, 104, 111, 105, 99, 101, 115]⟩ : ByteArray), 1)) else (if a0 = 301 then (some ((⟨#[77, 111, 118, 101, 100, 32, 80, 101, 114, 109, 97, 110, 101, 110, 116, 108, 121]⟩ : ByteArray), 1)) else (if a0 = 302 then (some ((⟨#[70, 111, 117, 110, 100]⟩ : ByteArray), 1)) else (if a0 = 303 then (some ((⟨#[83, 101, 101, 32, 79, 116, 104, 101, 114]⟩ : ByteArray), 1)) else (if a0 = 304 then (some ((⟨#[78, 111, 116, 32, 77, 111, 100, 105, 102, 105, 101, 100]⟩ : ByteArray), 1)) else (if a0 = 307 then (some ((⟨#[84, 101, 109, 112, 111, 114, 97, 114, 121, 32, 82, 101, 100, 105, 114, 101, 99, 116]⟩ : ByteArray), 1)) else (if a0 = 308 then (some ((⟨#[80, 101, 114, 109, 97, 110, 101, 110, 116, 32, 82, 101, 100, 105, 114, 101, 99, 116]⟩ : ByteArray), 1)) else ((spec_clientError.f a0).bind fun bt110 => (some (bt110.1, bt110.2))))))))))))))))))
set_option maxHeartbeats 8000000 in
set_option maxRecDepth 100000 in
theorem spec_StatusText.calls (a0 : Int) (r1 : ByteArray) (r2 : Int) (w : World) (h : spec_StatusText.f a0 = some (r1, r2)) :
    Calls Try.prog 26 #[.int .i64 a0] w fun e w' => e = .returned (.tuple #[.string r1, .int .i64 r2]) ∧ Drawn0 w w' := by
  have H : (if a0 = 100 then (some ((⟨#[67, 111, 110, 116, 105, 110, 117, 101]⟩ : ByteArray), 1)) else (if a0 = 101 then (some ((⟨#[83, 119, 105, 116, 99, 104, 105, 110, 103, 32, 80, 114, 111, 116, 111, 99, 111, 108, 115]⟩ : ByteArray), 1)) else (if a0 = 200 then (some ((⟨#[79, 75]⟩ : ByteArray), 1)) else (if a0 = 201 then (some ((⟨#[67, 114, 101, 97, 116, 101, 100]⟩ : ByteArray), 1)) else (if a0 = 202 then (some ((⟨#[65, 99, 99, 101, 112, 116, 101, 100]⟩ : ByteArray), 1)) else (if a0 = 203 then (some ((⟨#[78, 111, 110, 45, 65, 117, 116, 104, 111, 114, 105, 116, 97, 116, 105, 118, 101, 32, 73, 110, 102, 111, 114, 109, 97, 116, 105, 111, 110]⟩ : ByteArray), 1)) else (if a0 = 204 then (some ((⟨#[78, 111, 32, 67, 111, 110, 116, 101, 110, 116]⟩ : ByteArray), 1)) else (if a0 = 205 then (some ((⟨#[82, 101, 115, 101, 116, 32, 67, 111, 110, 116, 101, 110, 116]⟩ : ByteArray), 1)) else (if a0 = 206 then (some ((⟨#[80, 97, 114, 116, 105, 97, 108, 32, 67, 111, 110, 116, 101, 110, 116]⟩ : ByteArray), 1)) else (if a0 = 300 then (some ((⟨#[77, 117, 108, 116, 105, 112, 108, 101, 32, 67, 104, 111, 105, 99, 101, 115]⟩ : ByteArray), 1)) else (if a0 = 301 then (some ((⟨#[77, 111, 118, 101, 100, 32, 80, 101, 114, 109, 97, 110, 101, 110, 116, 108, 121]⟩ : ByteArray), 1)) else (if a0 = 302 then (some ((⟨#[70, 111, 117, 110, 100]⟩ : ByteArray), 1)) else (if a0 = 303 then (some ((⟨#[83, 101, 101, 32, 79, 116, 104, 101, 114]⟩ : ByteArray), 1)) else (if a0 = 304 then (some ((⟨#[78, 111, 116, 32, 77, 111, 100, 105, 102, 105, 101, 100]⟩ : ByteArray), 1)) else (if a0 = 307 then (some ((⟨#[84, 101, 109, 112, 111, 114, 97, 114, 121, 32, 82, 101, 100, 105, 114, 101, 99, 116]⟩ : ByteArray), 1)) else (if a0 = 308 then (some ((⟨#[80, 101, 114, 109, 97, 110, 101, 110, 116, 32, 82, 101, 100, 105, 114, 101, 99, 116]⟩ : ByteArray), 1)) else ((spec_clientError.f a0).bind fun bt110 => (some (bt110.1, bt110.2))))))))))))))))))) = some (r1, r2) := h
  clear h
  by_cases c2 : a0 = 100
  · rw [if_pos c2] at H
    have c2b0 : (a0 == 100) = true := beq_iff_eq.mpr c2
    have c2b1 : (a0 != 100) = false := bne_eq_false_iff_eq.mpr c2
    clear c2
    simp only [Option.some.injEq, Prod.mk.injEq] at H
    obtain ⟨rfl, rfl⟩ := H
    go_enter Try.func26, Try.ntmps26
    go_wp2
    go_ret2
    exact ⟨by first | rfl | (simp; done) | (simp [*]; done) | (simp [Go.Proofs.YtipmmjbjgbfgjaaX.isEmpty_ne]; done), by repeat (first | exact Drawn0.refl _ | apply Drawn0.step)⟩
  · rw [if_neg c2] at H
    have c2b0 : (a0 == 100) = false := beq_eq_false_iff_ne.mpr c2
    have c2b1 : (a0 != 100) = true := bne_iff_ne.mpr c2
    by_cases c3 : a0 = 101
    · rw [if_pos c3] at H
      have c3b0 : (a0 == 101) = true := beq_iff_eq.mpr c3
      have c3b1 : (a0 != 101) = false := bne_eq_false_iff_eq.mpr c3
      clear c3
      simp only [Option.some.injEq, Prod.mk.injEq] at H
      obtain ⟨rfl, rfl⟩ := H
      go_enter Try.func26, Try.ntmps26
      go_wp2
      go_ret2
      exact ⟨by first | rfl | (simp; done) | (simp [*]; done) | (simp [Go.Proofs.YtipmmjbjgbfgjaaX.isEmpty_ne]; done), by repeat (first | exact Drawn0.refl _ | apply Drawn0.step)⟩
    · rw [if_neg c3] at H
      have c3b0 : (a0 == 101) = false := beq_eq_false_iff_ne.mpr c3
      have c3b1 : (a0 != 101) = true := bne_iff_ne.mpr c3
      by_cases c4 : a0 = 200
      · rw [if_pos c4] at H
        have c4b0 : (a0 == 200) = true := beq_iff_eq.mpr c4
        have c4b1 : (a0 != 200) = false := bne_eq_false_iff_eq.mpr c4
        clear c4
        simp only [Option.some.injEq, Prod.mk.injEq] at H
        obtain ⟨rfl, rfl⟩ := H
        go_enter Try.func26, Try.ntmps26
        go_wp2
        go_ret2
        exact ⟨by first | rfl | (simp; done) | (simp [*]; done) | (simp [Go.Proofs.YtipmmjbjgbfgjaaX.isEmpty_ne]; done), by repeat (first | exact Drawn0.refl _ | apply Drawn0.step)⟩
      · rw [if_neg c4] at H
        have c4b0 : (a0 == 200) = false := beq_eq_false_iff_ne.mpr c4
        have c4b1 : (a0 != 200) = true := bne_iff_ne.mpr c4
        by_cases c5 : a0 = 201
        · rw [if_pos c5] at H
          have c5b0 : (a0 == 201) = true := beq_iff_eq.mpr c5
          have c5b1 : (a0 != 201) = false := bne_eq_false_iff_eq.mpr c5
          clear c5
          simp only [Option.some.injEq, Prod.mk.injEq] at H
          obtain ⟨rfl, rfl⟩ := H
          go_enter Try.func26, Try.ntmps26
          go_wp2
          go_ret2
          exact ⟨by first | rfl | (simp; done) | (simp [*]; done) | (simp [Go.Proofs.YtipmmjbjgbfgjaaX.isEmpty_ne]; done), by repeat (first | exact Drawn0.refl _ | apply Drawn0.step)⟩
        · rw [if_neg c5] at H
          have c5b0 : (a0 == 201) = false := beq_eq_false_iff_ne.mpr c5
          have c5b1 : (a0 != 201) = true := bne_iff_ne.mpr c5
          by_cases c6 : a0 = 202
          · rw [if_pos c6] at H
            have c6b0 : (a0 == 202) = true := beq_iff_eq.mpr c6
            have c6b1 : (a0 != 202) = false := bne_eq_false_iff_eq.mpr c6
            clear c6
            simp only [Option.some.injEq, Prod.mk.injEq] at H
            obtain ⟨rfl, rfl⟩ := H
            go_enter Try.func26, Try.ntmps26
            go_wp2
            go_ret2
            exact ⟨by first | rfl | (simp; done) | (simp [*]; done) | (simp [Go.Proofs.YtipmmjbjgbfgjaaX.isEmpty_ne]; done), by repeat (first | exact Drawn0.refl _ | apply Drawn0.step)⟩
          · rw [if_neg c6] at H
            have c6b0 : (a0 == 202) = false := beq_eq_false_iff_ne.mpr c6
            have c6b1 : (a0 != 202) = true := bne_iff_ne.mpr c6
            by_cases c7 : a0 = 203
            · rw [if_pos c7] at H
              have c7b0 : (a0 == 203) = true := beq_iff_eq.mpr c7
              have c7b1 : (a0 != 203) = false := bne_eq_false_iff_eq.mpr c7
              clear c7
              simp only [Option.some.injEq, Prod.mk.injEq] at H
              obtain ⟨rfl, rfl⟩ := H
              go_enter Try.func26, Try.ntmps26
              go_wp2
              go_ret2
              exact ⟨by first | rfl | (simp; done) | (simp [*]; done) | (simp [Go.Proofs.YtipmmjbjgbfgjaaX.isEmpty_ne]; done), by repeat (first | exact Drawn0.refl _ | apply Drawn0.step)⟩
            · rw [if_neg c7] at H
              have c7b0 : (a0 == 203) = false := beq_eq_false_iff_ne.mpr c7
              have c7b1 : (a0 != 203) = true := bne_iff_ne.mpr c7
              by_cases c8 : a0 = 204
              · rw [if_pos c8] at H
                have c8b0 : (a0 == 204) = true := beq_iff_eq.mpr c8
                have c8b1 : (a0 != 204) = false := bne_eq_false_iff_eq.mpr c8
                clear c8
                simp only [Option.some.injEq, Prod.mk.injEq] at H
                obtain ⟨rfl, rfl⟩ := H
                go_enter Try.func26, Try.ntmps26
                go_wp2
                go_ret2
                exact ⟨by first | rfl | (simp; done) | (simp [*]; done) | (simp [Go.Proofs.YtipmmjbjgbfgjaaX.isEmpty_ne]; done), by repeat (first | exact Drawn0.refl _ | apply Drawn0.step)⟩
              · rw [if_neg c8] at H
                have c8b0 : (a0 == 204) = false := beq_eq_false_iff_ne.mpr c8
                have c8b1 : (a0 != 204) = true := bne_iff_ne.mpr c8
                by_cases c9 : a0 = 205
                · rw [if_pos c9] at H
                  have c9b0 : (a0 == 205) = true := beq_iff_eq.mpr c9
                  have c9b1 : (a0 != 205) = false := bne_eq_false_iff_eq.mpr c9
                  clear c9
                  simp only [Option.some.injEq, Prod.mk.injEq] at H
                  obtain ⟨rfl, rfl⟩ := H
                  go_enter Try.func26, Try.ntmps26
                  go_wp2
                  go_ret2
                  exact ⟨by first | rfl | (simp; done) | (simp [*]; done) | (simp [Go.Proofs.YtipmmjbjgbfgjaaX.isEmpty_ne]; done), by repeat (first | exact Drawn0.refl _ | apply Drawn0.step)⟩
                · rw [if_neg c9] at H
                  have c9b0 : (a0 == 205) = false := beq_eq_false_iff_ne.mpr c9
                  have c9b1 : (a0 != 205) = true := bne_iff_ne.mpr c9
                  by_cases c10 : a0 = 206
                  · rw [if_pos c10] at H
                    have c10b0 : (a0 == 206) = true := beq_iff_eq.mpr c10
                    have c10b1 : (a0 != 206) = false := bne_eq_false_iff_eq.mpr c10
                    clear c10
                    simp only [Option.some.injEq, Prod.mk.injEq] at H
                    obtain ⟨rfl, rfl⟩ := H
                    go_enter Try.func26, Try.ntmps26
                    go_wp2
                    go_ret2
                    exact ⟨by first | rfl | (simp; done) | (simp [*]; done) | (simp [Go.Proofs.YtipmmjbjgbfgjaaX.isEmpty_ne]; done), by repeat (first | exact Drawn0.refl _ | apply Drawn0.step)⟩
                  · rw [if_neg c10] at H
                    have c10b0 : (a0 == 206) = false := beq_eq_false_iff_ne.mpr c10
                    have c10b1 : (a0 != 206) = true := bne_iff_ne.mpr c10
                    by_cases c11 : a0 = 300
                    · rw [if_pos c11] at H
                      have c11b0 : (a0 == 300) = true := beq_iff_eq.mpr c11
                      have c11b1 : (a0 != 300) = false := bne_eq_false_iff_eq.mpr c11
                      clear c11
                      simp only [Option.some.injEq, Prod.mk.injEq] at H
                      obtain ⟨rfl, rfl⟩ := H
                      go_enter Try.func26, Try.ntmps26
                      go_wp2
                      go_ret2
                      exact ⟨by first | rfl | (simp; done) | (simp [*]; done) | (simp [Go.Proofs.YtipmmjbjgbfgjaaX.isEmpty_ne]; done), by repeat (first | exact Drawn0.refl _ | apply Drawn0.step)⟩
                    · rw [if_neg c11] at H
                      have c11b0 : (a0 == 300) = false := beq_eq_false_iff_ne.mpr c11
                      have c11b1 : (a0 != 300) = true := bne_iff_ne.mpr c11
                      by_cases c12 : a0 = 301
                      · rw [if_pos c12] at H
                        have c12b0 : (a0 == 301) = true := beq_iff_eq.mpr c12
                        have c12b1 : (a0 != 301) = false := bne_eq_false_iff_eq.mpr c12
                        clear c12
                        simp only [Option.some.injEq, Prod.mk.injEq] at H
                        obtain ⟨rfl, rfl⟩ := H
                        go_enter Try.func26, Try.ntmps26
                        go_wp2
                        go_ret2
                        exact ⟨by first | rfl | (simp; done) | (simp [*]; done) | (simp [Go.Proofs.YtipmmjbjgbfgjaaX.isEmpty_ne]; done), by repeat (first | exact Drawn0.refl _ | apply Drawn0.step)⟩
                      · rw [if_neg c12] at H
                        have c12b0 : (a0 == 301) = false := beq_eq_false_iff_ne.mpr c12
                        have c12b1 : (a0 != 301) = true := bne_iff_ne.mpr c12
                        by_cases c13 : a0 = 302
                        · rw [if_pos c13] at H
                          have c13b0 : (a0 == 302) = true := beq_iff_eq.mpr c13
                          have c13b1 : (a0 != 302) = false := bne_eq_false_iff_eq.mpr c13
                          clear c13
                          simp only [Option.some.injEq, Prod.mk.injEq] at H
                          obtain ⟨rfl, rfl⟩ := H
                          go_enter Try.func26, Try.ntmps26
                          go_wp2
                          go_ret2
                          exact ⟨by first | rfl | (simp; done) | (simp [*]; done) | (simp [Go.Proofs.YtipmmjbjgbfgjaaX.isEmpty_ne]; done), by repeat (first | exact Drawn0.refl _ | apply Drawn0.step)⟩
                        · rw [if_neg c13] at H
                          have c13b0 : (a0 == 302) = false := beq_eq_false_iff_ne.mpr c13
                          have c13b1 : (a0 != 302) = true := bne_iff_ne.mpr c13
                          by_cases c14 : a0 = 303
                          · rw [if_pos c14] at H
                            have c14b0 : (a0 == 303) = true := beq_iff_eq.mpr c14
                            have c14b1 : (a0 != 303) = false := bne_eq_false_iff_eq.mpr c14
                            clear c14
                            simp only [Option.some.injEq, Prod.mk.injEq] at H
                            obtain ⟨rfl, rfl⟩ := H
                            go_enter Try.func26, Try.ntmps26
                            go_wp2
                            go_ret2
                            exact ⟨by first | rfl | (simp; done) | (simp [*]; done) | (simp [Go.Proofs.YtipmmjbjgbfgjaaX.isEmpty_ne]; done), by repeat (first | exact Drawn0.refl _ | apply Drawn0.step)⟩
                          · rw [if_neg c14] at H
                            have c14b0 : (a0 == 303) = false := beq_eq_false_iff_ne.mpr c14
                            have c14b1 : (a0 != 303) = true := bne_iff_ne.mpr c14
                            by_cases c15 : a0 = 304
                            · rw [if_pos c15] at H
                              have c15b0 : (a0 == 304) = true := beq_iff_eq.mpr c15
                              have c15b1 : (a0 != 304) = false := bne_eq_false_iff_eq.mpr c15
                              clear c15
                              simp only [Option.some.injEq, Prod.mk.injEq] at H
                              obtain ⟨rfl, rfl⟩ := H
                              go_enter Try.func26, Try.ntmps26
                              go_wp2
                              go_ret2
                              exact ⟨by first | rfl | (simp; done) | (simp [*]; done) | (simp [Go.Proofs.YtipmmjbjgbfgjaaX.isEmpty_ne]; done), by repeat (first | exact Drawn0.refl _ | apply Drawn0.step)⟩
                            · rw [if_neg c15] at H
                              have c15b0 : (a0 == 304) = false := beq_eq_false_iff_ne.mpr c15
                              have c15b1 : (a0 != 304) = true := bne_iff_ne.mpr c15
                              by_cases c16 : a0 = 307
                              · rw [if_pos c16] at H
                                have c16b0 : (a0 == 307) = true := beq_iff_eq.mpr c16
                                have c16b1 : (a0 != 307) = false := bne_eq_false_iff_eq.mpr c16
                                clear c16
                                simp only [Option.some.injEq, Prod.mk.injEq] at H
                                obtain ⟨rfl, rfl⟩ := H
                                go_enter Try.func26, Try.ntmps26
                                go_wp2
                                go_ret2
                                exact ⟨by first | rfl | (simp; done) | (simp [*]; done) | (simp [Go.Proofs.YtipmmjbjgbfgjaaX.isEmpty_ne]; done), by repeat (first | exact Drawn0.refl _ | apply Drawn0.step)⟩
                              · rw [if_neg c16] at H
                                have c16b0 : (a0 == 307) = false := beq_eq_false_iff_ne.mpr c16
                                have c16b1 : (a0 != 307) = true := bne_iff_ne.mpr c16
                                by_cases c17 : a0 = 308
                                · rw [if_pos c17] at H
                                  have c17b0 : (a0 == 308) = true := beq_iff_eq.mpr c17
                                  have c17b1 : (a0 != 308) = false := bne_eq_false_iff_eq.mpr c17
                                  clear c17
                                  simp only [Option.some.injEq, Prod.mk.injEq] at H
                                  obtain ⟨rfl, rfl⟩ := H
                                  go_enter Try.func26, Try.ntmps26
                                  go_wp2
                                  go_ret2
                                  exact ⟨by first | rfl | (simp; done) | (simp [*]; done) | (simp [Go.Proofs.YtipmmjbjgbfgjaaX.isEmpty_ne]; done), by repeat (first | exact Drawn0.refl _ | apply Drawn0.step)⟩
                                · rw [if_neg c17] at H
                                  have c17b0 : (a0 == 308) = false := beq_eq_false_iff_ne.mpr c17
                                  have c17b1 : (a0 != 308) = true := bne_iff_ne.mpr c17
                                  replace H := Option.bind_eq_some_iff.mp H
                                  obtain ⟨⟨t110, t111⟩, A180, H⟩ := H
                                  replace H : (some (t110, t111)) = some (r1, r2) := H
                                  have A18 := Aside0.mk A180
                                  clear A180
                                  simp only [Option.some.injEq, Prod.mk.injEq] at H
                                  obtain ⟨rfl, rfl⟩ := H
                                  go_enter Try.func26, Try.ntmps26
                                  go_wp2_with (first | ((with_reducible refine gate_callee (f := 65) rfl ?_); refine goesL_ (some 38) rfl rfl Try.func65 (by kernel_rfl) rfl #[.int .i64 a0] rfl (by (try simp only [List.map_toArray, List.map_cons, List.map_nil]); first | done | rfl | (simp only [List.length_drop, List.length_take]; rfl)) ?_; (with_reducible refine (spec_clientError.calls a0 t110 t111 _ A18.out).mono ?_); rintro e w' ⟨rfl, ⟨nd, rfl⟩⟩; refine ⟨_, rfl, ?_⟩))
                                  go_ret2
                                  exact ⟨by first | rfl | (simp; done) | (simp [*]; done) | (simp [Go.Proofs.YtipmmjbjgbfgjaaX.isEmpty_ne]; done), by repeat (first | exact Drawn0.refl _ | apply Drawn0.step)⟩

end Go.Proofs.Ytipmmjbjgbfgjaa.Q
