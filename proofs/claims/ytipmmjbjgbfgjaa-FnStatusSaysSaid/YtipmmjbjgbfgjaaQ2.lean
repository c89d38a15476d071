-- Written by a program of this session out of the translation, with the kit's printer. Not trusted: Lean checks it.
import Derived.Test.YtipmmjbjgbfgjaaQ0
namespace Go.Proofs.Ytipmmjbjgbfgjaa.Q
open Go.RowKit Go.Proofs.YtipmmjbjgbfgjaaW.PrintWords Go.Proofs.YtipmmjbjgbfgjaaW.PrintLast Go.Proofs.YtipmmjbjgbfgjaaW.PrintMore
attribute [local go_sem] max2_int min2_int max_two min_two max_three min_three max_four min_four   -- for this text's walks alone
set_option linter.unusedVariables false
set_option linter.unusedSimpArgs false

/-! ### spec_clientError: function 65 -/
def spec_clientError.f (a0 : Int) : Option (ByteArray × Int) := if a0 = 400 then (some ((⟨#[66, 97, 100, 32, 82, 101, 113, 117, 101, 115, 116]⟩ : ByteArray), 1)) else (if a0 = 401 then (some ((⟨#[85, 110, 97, 117, 116, 104, 111, 114, 105, 122, 101, 100]⟩ : ByteArray), 1)) else (if a0 = 402 then (some ((⟨#[80, 97, 121, 109, 101, 110, 116, 32, 82, 101, 113, 117, 105, 114, 101, 100]⟩ : ByteArray), 1)) else (if a0 = 403 then (some ((⟨#[70, 111, 114, 98, 105, 100, 100, 101, 110]⟩ : ByteArray), 1)) else (if a0 = 404 then (some ((⟨#[78, 111, 116, 32, 70, 111, 117, 110, 100]⟩ : ByteArray), 1)) else (if a0 = 405 then (some ((⟨#[77, 101, 116, 104, 111, 100, 32, 78, 111, 116, 32, 65, 108, 108, 111, 119, 101, 100]⟩ : ByteArray), 1)) else (if a0 = 406 then (some ((⟨#[78, 111, 116, 32, 65, 99, 99, 101, 112, 116, 97, 98, 108, 101]⟩ : ByteArray), 1)) else (if a0 = 408 then (some ((⟨#[82, 101, 113, 117, 101, 115, 116, 32, 84, 105, 109, 101, 111, 117, 116]⟩ : ByteArray), 1)) else (if a0 = 409 then (some ((⟨#[67, 111, 110, 102, 108, 105, 99, 116]⟩ : ByteArray), 1)) else (if a0 = 410 then (some ((⟨#[71, 111, 110, 101]⟩ : ByteArray), 1)) else (if a0 = 411 then (some ((⟨#[76, 101, 110, 103, 116, 104, 32, 82, 101, 113, 117, 105, 114, 101, 100]⟩ : ByteArray), 1)) else (if a0 = 412 then (some ((⟨#[80, 114, 101, 99, 111, 110, 100, 105, 116, 105, 111, 110, 32, 70, 97, 105, 108, 101, 100]⟩ : ByteArray), 1)) else (if a0 = 417 then (some ((⟨#[69, 120, 112, 101, 99, 116, 97, 116, 105, 111, 110, 32, 70, 97, 105, 108, 101, 100]⟩ : ByteArray), 1)) else (if a0 = 500 then (some ((⟨#[73, 110, 116, 101, 114, 110, 97, 108, 32, 83, 101, 114, 118, 101, 114, 32, 69, 114, 114, 111, 114]⟩ : ByteArray), 1)) else (if a0 = 501 then (some ((⟨#[78, 111, 116, 32, 73, 109, 112, 108, 101, 109, 101, 110, 116, 101, 100]⟩ : ByteArray), 1)) else (if a0 = 502 then (some ((⟨#[66, 97, 100, 32, 71, 97, 116, 101, 119, 97, 121]⟩ : ByteArray), 1)) else (if a0 = 503 then (some ((⟨#[83, 101, 114, 118, 105, 99, 101, 32, 85, 110, 97, 118, 97, 105, 108, 97, 98, 108, 101]⟩ : ByteArray), 1)) else (if a0 = 504 then (some ((⟨#[71, 97, 116, 101, 119, 97, 121, 32, 84, 105, 109, 101, 111, 117, 116]⟩ : ByteArray), 1)) else (if a0 = 505 then (some ((⟨#[72, 84, 84, 80, 32, 86, 101, 114, 115, 105, 111, 110, 32, 78, 111, 116, 32, 83, 117, 112, 112, 111, 114, 116, 101, 100]⟩ : ByteArray), 1)) else (some ((⟨#[]⟩ : ByteArray), 2))))))))))))))))))))
set_option maxHeartbeats 8000000 in
set_option maxRecDepth 100000 in
theorem spec_clientError.calls (a0 : Int) (r1 : ByteArray) (r2 : Int) (w : World) (h : spec_clientError.f a0 = some (r1, r2)) :
    Calls Try.prog 65 #[.int .i64 a0] w fun e w' => e = .returned (.tuple #[.string r1, .int .i64 r2]) ∧ Drawn0 w w' := by
  have H : (if a0 = 400 then (some ((⟨#[66, 97, 100, 32, 82, 101, 113, 117, 101, 115, 116]⟩ : ByteArray), 1)) else (if a0 = 401 then (some ((⟨#[85, 110, 97, 117, 116, 104, 111, 114, 105, 122, 101, 100]⟩ : ByteArray), 1)) else (if a0 = 402 then (some ((⟨#[80, 97, 121, 109, 101, 110, 116, 32, 82, 101, 113, 117, 105, 114, 101, 100]⟩ : ByteArray), 1)) else (if a0 = 403 then (some ((⟨#[70, 111, 114, 98, 105, 100, 100, 101, 110]⟩ : ByteArray), 1)) else (if a0 = 404 then (some ((⟨#[78, 111, 116, 32, 70, 111, 117, 110, 100]⟩ : ByteArray), 1)) else (if a0 = 405 then (some ((⟨#[77, 101, 116, 104, 111, 100, 32, 78, 111, 116, 32, 65, 108, 108, 111, 119, 101, 100]⟩ : ByteArray), 1)) else (if a0 = 406 then (some ((⟨#[78, 111, 116, 32, 65, 99, 99, 101, 112, 116, 97, 98, 108, 101]⟩ : ByteArray), 1)) else (if a0 = 408 then (some ((⟨#[82, 101, 113, 117, 101, 115, 116, 32, 84, 105, 109, 101, 111, 117, 116]⟩ : ByteArray), 1)) else (if a0 = 409 then (some ((⟨#[67, 111, 110, 102, 108, 105, 99, 116]⟩ : ByteArray), 1)) else (if a0 = 410 then (some ((⟨#[71, 111, 110, 101]⟩ : ByteArray), 1)) else (if a0 = 411 then (some ((⟨#[76, 101, 110, 103, 116, 104, 32, 82, 101, 113, 117, 105, 114, 101, 100]⟩ : ByteArray), 1)) else (if a0 = 412 then (some ((⟨#[80, 114, 101, 99, 111, 110, 100, 105, 116, 105, 111, 110, 32, 70, 97, 105, 108, 101, 100]⟩ : ByteArray), 1)) else (if a0 = 417 then (some ((⟨#[69, 120, 112, 101, 99, 116, 97, 116, 105, 111, 110, 32, 70, 97, 105, 108, 101, 100]⟩ : ByteArray), 1)) else (if a0 = 500 then (some ((⟨#[73, 110, 116, 101, 114, 110, 97, 108, 32, 83, 101, 114, 118, 101, 114, 32, 69, 114, 114, 111, 114]⟩ : ByteArray), 1)) else (if a0 = 501 then (some ((⟨#[78, 111, 116, 32, 73, 109, 112, 108, 101, 109, 101, 110, 116, 101, 100]⟩ : ByteArray), 1)) else (if a0 = 502 then (some ((⟨#[66, 97, 100, 32, 71, 97, 116, 101, 119, 97, 121]⟩ : ByteArray), 1)) else (if a0 = 503 then (some ((⟨#[83, 101, 114, 118, 105, 99, 101, 32, 85, 110, 97, 118, 97, 105, 108, 97, 98, 108, 101]⟩ : ByteArray), 1)) else (if a0 = 504 then (some ((⟨#[71, 97, 116, 101, 119, 97, 121, 32, 84, 105, 109, 101, 111, 117, 116]⟩ : ByteArray), 1)) else (if a0 = 505 then (some ((⟨#[72, 84, 84, 80, 32, 86, 101, 114, 115, 105, 111, 110, 32, 78, 111, 116, 32, 83, 117, 112, 112, 111, 114, 116, 101, 100]⟩ : ByteArray), 1)) else (some ((⟨#[]⟩ : ByteArray), 2))))))))))))))))))))) = some (r1, r2) := h
  clear h
  by_cases c2 : a0 = 400
  · rw [if_pos c2] at H
    have c2b0 : (a0 == 400) = true := beq_iff_eq.mpr c2
    have c2b1 : (a0 != 400) = false := bne_eq_false_iff_eq.mpr c2
    clear c2
    simp only [Option.some.injEq, Prod.mk.injEq] at H
    obtain ⟨rfl, rfl⟩ := H
    go_enter Try.func65, Try.ntmps65
    go_wp2
    go_ret2
    exact ⟨by first | rfl | (simp; done) | (simp [*]; done) | (simp [Go.Proofs.YtipmmjbjgbfgjaaX.isEmpty_ne]; done), by repeat (first | exact Drawn0.refl _ | apply Drawn0.step)⟩
  · rw [if_neg c2] at H
    have c2b0 : (a0 == 400) = false := beq_eq_false_iff_ne.mpr c2
    have c2b1 : (a0 != 400) = true := bne_iff_ne.mpr c2
    by_cases c3 : a0 = 401
    · rw [if_pos c3] at H
      have c3b0 : (a0 == 401) = true := beq_iff_eq.mpr c3
      have c3b1 : (a0 != 401) = false := bne_eq_false_iff_eq.mpr c3
      clear c3
      simp only [Option.some.injEq, Prod.mk.injEq] at H
      obtain ⟨rfl, rfl⟩ := H
      go_enter Try.func65, Try.ntmps65
      go_wp2
      go_ret2
      exact ⟨by first | rfl | (simp; done) | (simp [*]; done) | (simp [Go.Proofs.YtipmmjbjgbfgjaaX.isEmpty_ne]; done), by repeat (first | exact Drawn0.refl _ | apply Drawn0.step)⟩
    · rw [if_neg c3] at H
      have c3b0 : (a0 == 401) = false := beq_eq_false_iff_ne.mpr c3
      have c3b1 : (a0 != 401) = true := bne_iff_ne.mpr c3
      by_cases c4 : a0 = 402
      · rw [if_pos c4] at H
        have c4b0 : (a0 == 402) = true := beq_iff_eq.mpr c4
        have c4b1 : (a0 != 402) = false := bne_eq_false_iff_eq.mpr c4
        clear c4
        simp only [Option.some.injEq, Prod.mk.injEq] at H
        obtain ⟨rfl, rfl⟩ := H
        go_enter Try.func65, Try.ntmps65
        go_wp2
        go_ret2
        exact ⟨by first | rfl | (simp; done) | (simp [*]; done) | (simp [Go.Proofs.YtipmmjbjgbfgjaaX.isEmpty_ne]; done), by repeat (first | exact Drawn0.refl _ | apply Drawn0.step)⟩
      · rw [if_neg c4] at H
        have c4b0 : (a0 == 402) = false := beq_eq_false_iff_ne.mpr c4
        have c4b1 : (a0 != 402) = true := bne_iff_ne.mpr c4
        by_cases c5 : a0 = 403
        · rw [if_pos c5] at H
          have c5b0 : (a0 == 403) = true := beq_iff_eq.mpr c5
          have c5b1 : (a0 != 403) = false := bne_eq_false_iff_eq.mpr c5
          clear c5
          simp only [Option.some.injEq, Prod.mk.injEq] at H
          obtain ⟨rfl, rfl⟩ := H
          go_enter Try.func65, Try.ntmps65
          go_wp2
          go_ret2
          exact ⟨by first | rfl | (simp; done) | (simp [*]; done) | (simp [Go.Proofs.YtipmmjbjgbfgjaaX.isEmpty_ne]; done), by repeat (first | exact Drawn0.refl _ | apply Drawn0.step)⟩
        · rw [if_neg c5] at H
          have c5b0 : (a0 == 403) = false := beq_eq_false_iff_ne.mpr c5
          have c5b1 : (a0 != 403) = true := bne_iff_ne.mpr c5
          by_cases c6 : a0 = 404
          · rw [if_pos c6] at H
            have c6b0 : (a0 == 404) = true := beq_iff_eq.mpr c6
            have c6b1 : (a0 != 404) = false := bne_eq_false_iff_eq.mpr c6
            clear c6
            simp only [Option.some.injEq, Prod.mk.injEq] at H
            obtain ⟨rfl, rfl⟩ := H
            go_enter Try.func65, Try.ntmps65
            go_wp2
            go_ret2
            exact ⟨by first | rfl | (simp; done) | (simp [*]; done) | (simp [Go.Proofs.YtipmmjbjgbfgjaaX.isEmpty_ne]; done), by repeat (first | exact Drawn0.refl _ | apply Drawn0.step)⟩
          · rw [if_neg c6] at H
            have c6b0 : (a0 == 404) = false := beq_eq_false_iff_ne.mpr c6
            have c6b1 : (a0 != 404) = true := bne_iff_ne.mpr c6
            by_cases c7 : a0 = 405
            · rw [if_pos c7] at H
              have c7b0 : (a0 == 405) = true := beq_iff_eq.mpr c7
              have c7b1 : (a0 != 405) = false := bne_eq_false_iff_eq.mpr c7
              clear c7
              simp only [Option.some.injEq, Prod.mk.injEq] at H
              obtain ⟨rfl, rfl⟩ := H
              go_enter Try.func65, Try.ntmps65
              go_wp2
              go_ret2
              exact ⟨by first | rfl | (simp; done) | (simp [*]; done) | (simp [Go.Proofs.YtipmmjbjgbfgjaaX.isEmpty_ne]; done), by repeat (first | exact Drawn0.refl _ | apply Drawn0.step)⟩
            · rw [if_neg c7] at H
              have c7b0 : (a0 == 405) = false := beq_eq_false_iff_ne.mpr c7
              have c7b1 : (a0 != 405) = true := bne_iff_ne.mpr c7
              by_cases c8 : a0 = 406
              · rw [if_pos c8] at H
                have c8b0 : (a0 == 406) = true := beq_iff_eq.mpr c8
                have c8b1 : (a0 != 406) = false := bne_eq_false_iff_eq.mpr c8
                clear c8
                simp only [Option.some.injEq, Prod.mk.injEq] at H
                obtain ⟨rfl, rfl⟩ := H
                go_enter Try.func65, Try.ntmps65
                go_wp2
                go_ret2
                exact ⟨by first | rfl | (simp; done) | (simp [*]; done) | (simp [Go.Proofs.YtipmmjbjgbfgjaaX.isEmpty_ne]; done), by repeat (first | exact Drawn0.refl _ | apply Drawn0.step)⟩
              · rw [if_neg c8] at H
                have c8b0 : (a0 == 406) = false := beq_eq_false_iff_ne.mpr c8
                have c8b1 : (a0 != 406) = true := bne_iff_ne.mpr c8
                by_cases c9 : a0 = 408
                · rw [if_pos c9] at H
                  have c9b0 : (a0 == 408) = true := beq_iff_eq.mpr c9
                  have c9b1 : (a0 != 408) = false := bne_eq_false_iff_eq.mpr c9
                  clear c9
                  simp only [Option.some.injEq, Prod.mk.injEq] at H
                  obtain ⟨rfl, rfl⟩ := H
                  go_enter Try.func65, Try.ntmps65
                  go_wp2
                  go_ret2
                  exact ⟨by first | rfl | (simp; done) | (simp [*]; done) | (simp [Go.Proofs.YtipmmjbjgbfgjaaX.isEmpty_ne]; done), by repeat (first | exact Drawn0.refl _ | apply Drawn0.step)⟩
                · rw [if_neg c9] at H
                  have c9b0 : (a0 == 408) = false := beq_eq_false_iff_ne.mpr c9
                  have c9b1 : (a0 != 408) = true := bne_iff_ne.mpr c9
                  by_cases c10 : a0 = 409
                  · rw [if_pos c10] at H
                    have c10b0 : (a0 == 409) = true := beq_iff_eq.mpr c10
                    have c10b1 : (a0 != 409) = false := bne_eq_false_iff_eq.mpr c10
                    clear c10
                    simp only [Option.some.injEq, Prod.mk.injEq] at H
                    obtain ⟨rfl, rfl⟩ := H
                    go_enter Try.func65, Try.ntmps65
                    go_wp2
                    go_ret2
                    exact ⟨by first | rfl | (simp; done) | (simp [*]; done) | (simp [Go.Proofs.YtipmmjbjgbfgjaaX.isEmpty_ne]; done), by repeat (first | exact Drawn0.refl _ | apply Drawn0.step)⟩
                  · rw [if_neg c10] at H
                    have c10b0 : (a0 == 409) = false := beq_eq_false_iff_ne.mpr c10
                    have c10b1 : (a0 != 409) = true := bne_iff_ne.mpr c10
                    by_cases c11 : a0 = 410
                    · rw [if_pos c11] at H
                      have c11b0 : (a0 == 410) = true := beq_iff_eq.mpr c11
                      have c11b1 : (a0 != 410) = false := bne_eq_false_iff_eq.mpr c11
                      clear c11
                      simp only [Option.some.injEq, Prod.mk.injEq] at H
                      obtain ⟨rfl, rfl⟩ := H
                      go_enter Try.func65, Try.ntmps65
                      go_wp2
                      go_ret2
                      exact ⟨by first | rfl | (simp; done) | (simp [*]; done) | (simp [Go.Proofs.YtipmmjbjgbfgjaaX.isEmpty_ne]; done), by repeat (first | exact Drawn0.refl _ | apply Drawn0.step)⟩
                    · rw [if_neg c11] at H
                      have c11b0 : (a0 == 410) = false := beq_eq_false_iff_ne.mpr c11
                      have c11b1 : (a0 != 410) = true := bne_iff_ne.mpr c11
                      by_cases c12 : a0 = 411
                      · rw [if_pos c12] at H
                        have c12b0 : (a0 == 411) = true := beq_iff_eq.mpr c12
                        have c12b1 : (a0 != 411) = false := bne_eq_false_iff_eq.mpr c12
                        clear c12
                        simp only [Option.some.injEq, Prod.mk.injEq] at H
                        obtain ⟨rfl, rfl⟩ := H
                        go_enter Try.func65, Try.ntmps65
                        go_wp2
                        go_ret2
                        exact ⟨by first | rfl | (simp; done) | (simp [*]; done) | (simp [Go.Proofs.YtipmmjbjgbfgjaaX.isEmpty_ne]; done), by repeat (first | exact Drawn0.refl _ | apply Drawn0.step)⟩
                      · rw [if_neg c12] at H
                        have c12b0 : (a0 == 411) = false := beq_eq_false_iff_ne.mpr c12
                        have c12b1 : (a0 != 411) = true := bne_iff_ne.mpr c12
                        by_cases c13 : a0 = 412
                        · rw [if_pos c13] at H
                          have c13b0 : (a0 == 412) = true := beq_iff_eq.mpr c13
                          have c13b1 : (a0 != 412) = false := bne_eq_false_iff_eq.mpr c13
                          clear c13
                          simp only [Option.some.injEq, Prod.mk.injEq] at H
                          obtain ⟨rfl, rfl⟩ := H
                          go_enter Try.func65, Try.ntmps65
                          go_wp2
                          go_ret2
                          exact ⟨by first | rfl | (simp; done) | (simp [*]; done) | (simp [Go.Proofs.YtipmmjbjgbfgjaaX.isEmpty_ne]; done), by repeat (first | exact Drawn0.refl _ | apply Drawn0.step)⟩
                        · rw [if_neg c13] at H
                          have c13b0 : (a0 == 412) = false := beq_eq_false_iff_ne.mpr c13
                          have c13b1 : (a0 != 412) = true := bne_iff_ne.mpr c13
                          by_cases c14 : a0 = 417
                          · rw [if_pos c14] at H
                            have c14b0 : (a0 == 417) = true := beq_iff_eq.mpr c14
                            have c14b1 : (a0 != 417) = false := bne_eq_false_iff_eq.mpr c14
                            clear c14
                            simp only [Option.some.injEq, Prod.mk.injEq] at H
                            obtain ⟨rfl, rfl⟩ := H
                            go_enter Try.func65, Try.ntmps65
                            go_wp2
                            go_ret2
                            exact ⟨by first | rfl | (simp; done) | (simp [*]; done) | (simp [Go.Proofs.YtipmmjbjgbfgjaaX.isEmpty_ne]; done), by repeat (first | exact Drawn0.refl _ | apply Drawn0.step)⟩
                          · rw [if_neg c14] at H
                            have c14b0 : (a0 == 417) = false := beq_eq_false_iff_ne.mpr c14
                            have c14b1 : (a0 != 417) = true := bne_iff_ne.mpr c14
                            by_cases c15 : a0 = 500
                            · rw [if_pos c15] at H
                              have c15b0 : (a0 == 500) = true := beq_iff_eq.mpr c15
                              have c15b1 : (a0 != 500) = false := bne_eq_false_iff_eq.mpr c15
                              clear c15
                              simp only [Option.some.injEq, Prod.mk.injEq] at H
                              obtain ⟨rfl, rfl⟩ := H
                              go_enter Try.func65, Try.ntmps65
                              go_wp2
                              go_ret2
                              exact ⟨by first | rfl | (simp; done) | (simp [*]; done) | (simp [Go.Proofs.YtipmmjbjgbfgjaaX.isEmpty_ne]; done), by repeat (first | exact Drawn0.refl _ | apply Drawn0.step)⟩
                            · rw [if_neg c15] at H
                              have c15b0 : (a0 == 500) = false := beq_eq_false_iff_ne.mpr c15
                              have c15b1 : (a0 != 500) = true := bne_iff_ne.mpr c15
                              by_cases c16 : a0 = 501
                              · rw [if_pos c16] at H
                                have c16b0 : (a0 == 501) = true := beq_iff_eq.mpr c16
                                have c16b1 : (a0 != 501) = false := bne_eq_false_iff_eq.mpr c16
                                clear c16
                                simp only [Option.some.injEq, Prod.mk.injEq] at H
                                obtain ⟨rfl, rfl⟩ := H
                                go_enter Try.func65, Try.ntmps65
                                go_wp2
                                go_ret2
                                exact ⟨by first | rfl | (simp; done) | (simp [*]; done) | (simp [Go.Proofs.YtipmmjbjgbfgjaaX.isEmpty_ne]; done), by repeat (first | exact Drawn0.refl _ | apply Drawn0.step)⟩
                              · rw [if_neg c16] at H
                                have c16b0 : (a0 == 501) = false := beq_eq_false_iff_ne.mpr c16
                                have c16b1 : (a0 != 501) = true := bne_iff_ne.mpr c16
                                by_cases c17 : a0 = 502
                                · rw [if_pos c17] at H
                                  have c17b0 : (a0 == 502) = true := beq_iff_eq.mpr c17
                                  have c17b1 : (a0 != 502) = false := bne_eq_false_iff_eq.mpr c17
                                  clear c17
                                  simp only [Option.some.injEq, Prod.mk.injEq] at H
                                  obtain ⟨rfl, rfl⟩ := H
                                  go_enter Try.func65, Try.ntmps65
                                  go_wp2
                                  go_ret2
                                  exact ⟨by first | rfl | (simp; done) | (simp [*]; done) | (simp [Go.Proofs.YtipmmjbjgbfgjaaX.isEmpty_ne]; done), by repeat (first | exact Drawn0.refl _ | apply Drawn0.step)⟩
                                · rw [if_neg c17] at H
                                  have c17b0 : (a0 == 502) = false := beq_eq_false_iff_ne.mpr c17
                                  have c17b1 : (a0 != 502) = true := bne_iff_ne.mpr c17
                                  by_cases c18 : a0 = 503
                                  · rw [if_pos c18] at H
                                    have c18b0 : (a0 == 503) = true := beq_iff_eq.mpr c18
                                    have c18b1 : (a0 != 503) = false := bne_eq_false_iff_eq.mpr c18
                                    clear c18
                                    simp only [Option.some.injEq, Prod.mk.injEq] at H
                                    obtain ⟨rfl, rfl⟩ := H
                                    go_enter Try.func65, Try.ntmps65
                                    go_wp2
                                    go_ret2
                                    exact ⟨by first | rfl | (simp; done) | (simp [*]; done) | (simp [Go.Proofs.YtipmmjbjgbfgjaaX.isEmpty_ne]; done), by repeat (first | exact Drawn0.refl _ | apply Drawn0.step)⟩
                                  · rw [if_neg c18] at H
                                    have c18b0 : (a0 == 503) = false := beq_eq_false_iff_ne.mpr c18
                                    have c18b1 : (a0 != 503) = true := bne_iff_ne.mpr c18
                                    by_cases c19 : a0 = 504
                                    · rw [if_pos c19] at H
                                      have c19b0 : (a0 == 504) = true := beq_iff_eq.mpr c19
                                      have c19b1 : (a0 != 504) = false := bne_eq_false_iff_eq.mpr c19
                                      clear c19
                                      simp only [Option.some.injEq, Prod.mk.injEq] at H
                                      obtain ⟨rfl, rfl⟩ := H
                                      go_enter Try.func65, Try.ntmps65
                                      go_wp2
                                      go_ret2
                                      exact ⟨by first | rfl | (simp; done) | (simp [*]; done) | (simp [Go.Proofs.YtipmmjbjgbfgjaaX.isEmpty_ne]; done), by repeat (first | exact Drawn0.refl _ | apply Drawn0.step)⟩
                                    · rw [if_neg c19] at H
                                      have c19b0 : (a0 == 504) = false := beq_eq_false_iff_ne.mpr c19
                                      have c19b1 : (a0 != 504) = true := bne_iff_ne.mpr c19
                                      by_cases c20 : a0 = 505
                                      · rw [if_pos c20] at H
                                        have c20b0 : (a0 == 505) = true := beq_iff_eq.mpr c20
                                        have c20b1 : (a0 != 505) = false := bne_eq_false_iff_eq.mpr c20
                                        clear c20
                                        simp only [Option.some.injEq, Prod.mk.injEq] at H
                                        obtain ⟨rfl, rfl⟩ := H
                                        go_enter Try.func65, Try.ntmps65
                                        go_wp2
                                        go_ret2
                                        exact ⟨by first | rfl | (simp; done) | (simp [*]; done) | (simp [Go.Proofs.YtipmmjbjgbfgjaaX.isEmpty_ne]; done), by repeat (first | exact Drawn0.refl _ | apply Drawn0.step)⟩
                                      · rw [if_neg c20] at H
                                        have c20b0 : (a0 == 505) = false := beq_eq_false_iff_ne.mpr c20
                                        have c20b1 : (a0 != 505) = true := bne_iff_ne.mpr c20
                                        simp only [Option.some.injEq, Prod.mk.injEq] at H
                                        obtain ⟨rfl, rfl⟩ := H
                                        go_enter Try.func65, Try.ntmps65
                                        go_wp2
                                        go_ret2
                                        exact ⟨by first | rfl | (simp; done) | (simp [*]; done) | (simp [Go.Proofs.YtipmmjbjgbfgjaaX.isEmpty_ne]; done), by repeat (first | exact Drawn0.refl _ | apply Drawn0.step)⟩

end Go.Proofs.Ytipmmjbjgbfgjaa.Q
