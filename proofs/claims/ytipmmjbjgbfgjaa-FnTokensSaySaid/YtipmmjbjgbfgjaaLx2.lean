/- The lexer's loops: blanks, names, numbers. Printed by wip/tools/genLx2.py. -/
import Derived.Test.YtipmmjbjgbfgjaaQ1
import Derived.Test.YtipmmjbjgbfgjaaLx1
namespace Go.Proofs.Ytipmmjbjgbfgjaa.Q
open Go.RowKit Go.Proofs.YtipmmjbjgbfgjaaW.PrintWords Go.Proofs.YtipmmjbjgbfgjaaW.PrintLast Go.Proofs.YtipmmjbjgbfgjaaW.PrintMore
set_option linter.unusedVariables false
set_option linter.unusedSimpArgs false
set_option maxHeartbeats 8000000 in
set_option maxRecDepth 100000 in
theorem skipWs_calls (w : World) (g : Nat) (s : ByteArray) (n : Nat) (h : LN w g s n) (hs : s.size ≤ 2147483647) : Calls Try.prog 92 #[.pointer (some ⟨g, 0, none⟩)] w fun e w' => e = .returned (.tuple #[]) ∧ LN w' g s (skipTo isWs s n) ∧ Onl g w w' := by
  have HL0 := Aside0.mk h
  have HS := Aside0.mk hs
  clear h hs
  go_enter Try.func92, Try.ntmps92
  go_wp2
  go_loopw [2] (fun _ wr => ∃ m : Nat, Aside0 (LN wr g s m) ∧ Aside0 (skipTo isWs s m = skipTo isWs s n) ∧ Aside0 (Onl g w wr)) (fun _ wr => s.size - posW wr g)
  case atStart => exact ⟨n, HL0, ⟨rfl⟩, ⟨Onl.refl _ _⟩⟩
  case round =>
    obtain ⟨m, HL, HINV, HO⟩ := hrel
    obtain ⟨x3, hx3⟩ : ∃ x3, x3 = chAt s m := ⟨_, rfl⟩
    have HXC := Aside0.mk hx3
    have f3 := LX.c3 HL.out
    rw [← hx3] at f3
    clear hx3
    by_cases e32 : x3 = 32
    · have b32 : (x3 == 32) = true := beq_iff_eq.2 e32
      have hP : isWs (chAt s m) = true := by rw [← HXC.out]; simp [isWs, e32]
      have HM : Aside0 (m < s.size) := ⟨ch_in (by decide) hP⟩
      have HINV2 : Aside0 (skipTo isWs s (m + 1) = skipTo isWs s n) := ⟨by rw [← skip_go (by decide) hP]; exact HINV.out⟩
      clear hP e32
      go_wp2_with (first | ((with_reducible refine gate_callee (f := 91) rfl ?_); refine goesL_ (some 29) rfl rfl Try.func91 (by kernel_rfl) rfl #[.pointer (some ⟨g, 0, none⟩)] rfl (by (try simp only [List.map_toArray, List.map_cons, List.map_nil]); first | done | rfl) ?_; refine (readNext_calls _ g s m (by exact HL.out.heap rfl) (by have := HM.out; have := HS.out; omega)).mono ?_; rintro e wq ⟨rfl, hl, ho⟩; refine ⟨_, rfl, ?_⟩; have HL2 := Aside0.mk hl; have HO2 := Aside0.mk (Onl.trans (by first | exact HO.out | exact HO.out.drewN _) ho); clear hl ho))
      simp only [Act.put, List.setIfInBounds_toArray, List.set_cons_succ, List.set_cons_zero]
      go_roundw
      case measure => show s.size - posW _ g < s.size - posW _ g; rw [HL2.out.pos, LN.pos (HL.out.heap rfl)]; have := HM.out; omega
      case rel => exact ⟨m + 1, HL2, HINV2, ⟨HO2.out⟩⟩
    · have b32 : (x3 == 32) = false := beq_eq_false_iff_ne.2 e32
      by_cases e9 : x3 = 9
      · have b9 : (x3 == 9) = true := beq_iff_eq.2 e9
        have hP : isWs (chAt s m) = true := by rw [← HXC.out]; simp [isWs, e9]
        have HM : Aside0 (m < s.size) := ⟨ch_in (by decide) hP⟩
        have HINV2 : Aside0 (skipTo isWs s (m + 1) = skipTo isWs s n) := ⟨by rw [← skip_go (by decide) hP]; exact HINV.out⟩
        clear hP e9
        go_wp2_with (first | ((with_reducible refine gate_callee (f := 91) rfl ?_); refine goesL_ (some 29) rfl rfl Try.func91 (by kernel_rfl) rfl #[.pointer (some ⟨g, 0, none⟩)] rfl (by (try simp only [List.map_toArray, List.map_cons, List.map_nil]); first | done | rfl) ?_; refine (readNext_calls _ g s m (by exact HL.out.heap rfl) (by have := HM.out; have := HS.out; omega)).mono ?_; rintro e wq ⟨rfl, hl, ho⟩; refine ⟨_, rfl, ?_⟩; have HL2 := Aside0.mk hl; have HO2 := Aside0.mk (Onl.trans (by first | exact HO.out | exact HO.out.drewN _) ho); clear hl ho))
        simp only [Act.put, List.setIfInBounds_toArray, List.set_cons_succ, List.set_cons_zero]
        go_roundw
        case measure => show s.size - posW _ g < s.size - posW _ g; rw [HL2.out.pos, LN.pos (HL.out.heap rfl)]; have := HM.out; omega
        case rel => exact ⟨m + 1, HL2, HINV2, ⟨HO2.out⟩⟩
      · have b9 : (x3 == 9) = false := beq_eq_false_iff_ne.2 e9
        by_cases e10 : x3 = 10
        · have b10 : (x3 == 10) = true := beq_iff_eq.2 e10
          have hP : isWs (chAt s m) = true := by rw [← HXC.out]; simp [isWs, e10]
          have HM : Aside0 (m < s.size) := ⟨ch_in (by decide) hP⟩
          have HINV2 : Aside0 (skipTo isWs s (m + 1) = skipTo isWs s n) := ⟨by rw [← skip_go (by decide) hP]; exact HINV.out⟩
          clear hP e10
          go_wp2_with (first | ((with_reducible refine gate_callee (f := 91) rfl ?_); refine goesL_ (some 29) rfl rfl Try.func91 (by kernel_rfl) rfl #[.pointer (some ⟨g, 0, none⟩)] rfl (by (try simp only [List.map_toArray, List.map_cons, List.map_nil]); first | done | rfl) ?_; refine (readNext_calls _ g s m (by exact HL.out.heap rfl) (by have := HM.out; have := HS.out; omega)).mono ?_; rintro e wq ⟨rfl, hl, ho⟩; refine ⟨_, rfl, ?_⟩; have HL2 := Aside0.mk hl; have HO2 := Aside0.mk (Onl.trans (by first | exact HO.out | exact HO.out.drewN _) ho); clear hl ho))
          simp only [Act.put, List.setIfInBounds_toArray, List.set_cons_succ, List.set_cons_zero]
          go_roundw
          case measure => show s.size - posW _ g < s.size - posW _ g; rw [HL2.out.pos, LN.pos (HL.out.heap rfl)]; have := HM.out; omega
          case rel => exact ⟨m + 1, HL2, HINV2, ⟨HO2.out⟩⟩
        · have b10 : (x3 == 10) = false := beq_eq_false_iff_ne.2 e10
          by_cases e13 : x3 = 13
          · have b13 : (x3 == 13) = true := beq_iff_eq.2 e13
            have hP : isWs (chAt s m) = true := by rw [← HXC.out]; simp [isWs, e13]
            have HM : Aside0 (m < s.size) := ⟨ch_in (by decide) hP⟩
            have HINV2 : Aside0 (skipTo isWs s (m + 1) = skipTo isWs s n) := ⟨by rw [← skip_go (by decide) hP]; exact HINV.out⟩
            clear hP e13
            go_wp2_with (first | ((with_reducible refine gate_callee (f := 91) rfl ?_); refine goesL_ (some 29) rfl rfl Try.func91 (by kernel_rfl) rfl #[.pointer (some ⟨g, 0, none⟩)] rfl (by (try simp only [List.map_toArray, List.map_cons, List.map_nil]); first | done | rfl) ?_; refine (readNext_calls _ g s m (by exact HL.out.heap rfl) (by have := HM.out; have := HS.out; omega)).mono ?_; rintro e wq ⟨rfl, hl, ho⟩; refine ⟨_, rfl, ?_⟩; have HL2 := Aside0.mk hl; have HO2 := Aside0.mk (Onl.trans (by first | exact HO.out | exact HO.out.drewN _) ho); clear hl ho))
            simp only [Act.put, List.setIfInBounds_toArray, List.set_cons_succ, List.set_cons_zero]
            go_roundw
            case measure => show s.size - posW _ g < s.size - posW _ g; rw [HL2.out.pos, LN.pos (HL.out.heap rfl)]; have := HM.out; omega
            case rel => exact ⟨m + 1, HL2, HINV2, ⟨HO2.out⟩⟩
          · have b13 : (x3 == 13) = false := beq_eq_false_iff_ne.2 e13
            have hP : isWs (chAt s m) = false := by rw [← HXC.out]; simp [isWs, e32, e9, e10, e13]
            have HEND : Aside0 (skipTo isWs s n = m) := ⟨by rw [← HINV.out]; exact skip_stop hP⟩
            clear hP e32 e9 e10 e13
            go_wp2
            go_end0
            refine ⟨rfl, ?_, by first | exact HO.out | exact HO.out.drewN _⟩
            rw [HEND.out]
            exact HL.out.heap rfl

def isLt (c : Int) : Bool := (irislexer_isLetter.f c).getD false
def isDg (c : Int) : Bool := (irislexer_isDigit.f c).getD false
theorem isLt_eq (c : Int) : irislexer_isLetter.f c = some (isLt c) := by
  unfold isLt irislexer_isLetter.f
  repeat' split
  all_goals rfl
theorem isDg_eq (c : Int) : irislexer_isDigit.f c = some (isDg c) := by
  unfold isDg irislexer_isDigit.f
  repeat' split
  all_goals rfl
def isLD (c : Int) : Bool := isLt c || isDg c
theorem isLD0 : isLD 0 = false := by decide
theorem isDg0 : isDg 0 = false := by decide
set_option maxHeartbeats 8000000 in
set_option maxRecDepth 100000 in
theorem readNum_calls (w : World) (g : Nat) (s : ByteArray) (n : Nat) (h : LN w g s n) (hs : s.size ≤ 2147483647) (hn : n ≤ s.size) : Calls Try.prog 99 #[.pointer (some ⟨g, 0, none⟩)] w fun e w' => e = .returned (.string (s.extract n (skipTo isDg s n))) ∧ LN w' g s (skipTo isDg s n) ∧ Onl g w w' := by
  have HL0 := Aside0.mk h
  have HS := Aside0.mk hs
  have HN := Aside0.mk hn
  obtain ⟨xn, hxn⟩ : ∃ x : Int, x = (n : Int) := ⟨_, rfl⟩
  have HXN := Aside0.mk hxn
  have f1 := LX.c1 h
  rw [← hxn] at f1
  clear h hs hn hxn
  go_enter Try.func99, Try.ntmps99
  go_wp2
  clear f1
  go_loopw [8] (fun _ wr => ∃ m : Nat, Aside0 (LN wr g s m) ∧ Aside0 (skipTo isDg s m = skipTo isDg s n) ∧ Aside0 (n ≤ m ∧ m ≤ s.size) ∧ Aside0 (Onl g w wr)) (fun _ wr => s.size - posW wr g)
  case atStart => exact ⟨n, ⟨by exact HL0.out.heap rfl⟩, ⟨rfl⟩, ⟨⟨Nat.le_refl _, HN.out⟩⟩, ⟨by first | exact Onl.refl _ _ | exact (Onl.refl _ _).drewN _⟩⟩
  case round =>
    obtain ⟨m, HL, HINV, HNM, HO⟩ := hrel
    obtain ⟨x3, hx3⟩ : ∃ x3, x3 = chAt s m := ⟨_, rfl⟩
    have HXC := Aside0.mk hx3
    have f3 := LX.c3 HL.out
    rw [← hx3] at f3
    clear hx3
    by_cases hisDg : isDg x3 = true
    · have HisDg : Aside0 (irislexer_isDigit.f x3 = some true) := ⟨by rw [isDg_eq, hisDg]⟩
      have hP : isDg (chAt s m) = true := by rw [← HXC.out]; simp [hisDg]
      have HM : Aside0 (m < s.size) := ⟨ch_in isDg0 hP⟩
      have HINV2 : Aside0 (skipTo isDg s (m + 1) = skipTo isDg s n) := ⟨by rw [← skip_go isDg0 hP]; exact HINV.out⟩
      clear hP hisDg
      go_wp2_with (first | ((with_reducible refine gate_callee (f := 98) rfl ?_); refine goesL_ (some 12) rfl rfl Try.func98 (by kernel_rfl) rfl #[.int .u8 x3] rfl (by (try simp only [List.map_toArray, List.map_cons, List.map_nil]); first | done | rfl) ?_; refine (irislexer_isDigit.calls x3 _ _ HisDg.out).mono ?_; rintro e wq ⟨rfl, ⟨nd, rfl⟩⟩; refine ⟨_, rfl, ?_⟩) | ((with_reducible refine gate_callee (f := 91) rfl ?_); refine goesL_ (some 14) rfl rfl Try.func91 (by kernel_rfl) rfl #[.pointer (some ⟨g, 0, none⟩)] rfl (by (try simp only [List.map_toArray, List.map_cons, List.map_nil]); first | done | rfl) ?_; refine (readNext_calls _ g s m (by exact HL.out.heap rfl) (by have := HM.out; have := HS.out; omega)).mono ?_; rintro e wq ⟨rfl, hl, ho⟩; refine ⟨_, rfl, ?_⟩; have HL2 := Aside0.mk hl; have HO2 := Aside0.mk (Onl.trans (by first | exact HO.out | exact HO.out.drewN _) ho); clear hl ho))
      simp only [Act.put, List.setIfInBounds_toArray, List.set_cons_succ, List.set_cons_zero]
      go_roundw
      case measure => show s.size - posW _ g < s.size - posW _ g; rw [HL2.out.pos, LN.pos (HL.out.heap rfl)]; have := HM.out; omega
      case rel => exact ⟨m + 1, HL2, HINV2, ⟨by have := HNM.out; have := HM.out; omega⟩, ⟨HO2.out⟩⟩
    · have HisDg : Aside0 (irislexer_isDigit.f x3 = some false) := ⟨by rw [isDg_eq, Bool.eq_false_iff.2 hisDg]⟩
      have hP : isDg (chAt s m) = false := by rw [← HXC.out]; simp [hisDg]
      have HEND : Aside0 (skipTo isDg s n = m) := ⟨by rw [← HINV.out]; exact skip_stop hP⟩
      have f0 := LX.c0 HL.out
      have f1 := LX.c1 HL.out
      obtain ⟨xm, hxm⟩ : ∃ x : Int, x = (m : Int) := ⟨_, rfl⟩
      rw [← hxm] at f1
      have HXM := Aside0.mk hxm
      have q1 : (0 ≤ xn) = True := eq_true (by have := HXN.out; omega)
      have q2 : (xn ≤ xm) = True := eq_true (by have := HXN.out; have := HNM.out; omega)
      have q3 : (xm ≤ (s.size : Int)) = True := eq_true (by have := HNM.out; omega)
      clear hP hxm hisDg
      go_wp2_with (first | ((with_reducible refine gate_callee (f := 98) rfl ?_); refine goesL_ (some 12) rfl rfl Try.func98 (by kernel_rfl) rfl #[.int .u8 x3] rfl (by (try simp only [List.map_toArray, List.map_cons, List.map_nil]); first | done | rfl) ?_; refine (irislexer_isDigit.calls x3 _ _ HisDg.out).mono ?_; rintro e wq ⟨rfl, ⟨nd, rfl⟩⟩; refine ⟨_, rfl, ?_⟩))
      repeat (go_quiet (fail); try go_wp2)
      go_ret
      refine ⟨?_, ?_, by first | exact HO.out | exact HO.out.drewN _ | exact (HO.out.drewN _).drewN _⟩
      · rw [HEND.out]; rw [HXN.out, HXM.out]; rfl
      · rw [HEND.out]; exact HL.out.heap rfl
set_option maxHeartbeats 8000000 in
set_option maxRecDepth 100000 in
theorem readIdent_calls (w : World) (g : Nat) (s : ByteArray) (n : Nat) (h : LN w g s n) (hs : s.size ≤ 2147483647) (hn : n ≤ s.size) : Calls Try.prog 95 #[.pointer (some ⟨g, 0, none⟩)] w fun e w' => e = .returned (.string (s.extract n (skipTo isLD s n))) ∧ LN w' g s (skipTo isLD s n) ∧ Onl g w w' := by
  have HL0 := Aside0.mk h
  have HS := Aside0.mk hs
  have HN := Aside0.mk hn
  obtain ⟨xn, hxn⟩ : ∃ x : Int, x = (n : Int) := ⟨_, rfl⟩
  have HXN := Aside0.mk hxn
  have f1 := LX.c1 h
  rw [← hxn] at f1
  clear h hs hn hxn
  go_enter Try.func95, Try.ntmps95
  go_wp2
  clear f1
  go_loopw [8] (fun _ wr => ∃ m : Nat, Aside0 (LN wr g s m) ∧ Aside0 (skipTo isLD s m = skipTo isLD s n) ∧ Aside0 (n ≤ m ∧ m ≤ s.size) ∧ Aside0 (Onl g w wr)) (fun _ wr => s.size - posW wr g)
  case atStart => exact ⟨n, ⟨by exact HL0.out.heap rfl⟩, ⟨rfl⟩, ⟨⟨Nat.le_refl _, HN.out⟩⟩, ⟨by first | exact Onl.refl _ _ | exact (Onl.refl _ _).drewN _⟩⟩
  case round =>
    obtain ⟨m, HL, HINV, HNM, HO⟩ := hrel
    obtain ⟨x3, hx3⟩ : ∃ x3, x3 = chAt s m := ⟨_, rfl⟩
    have HXC := Aside0.mk hx3
    have f3 := LX.c3 HL.out
    rw [← hx3] at f3
    clear hx3
    by_cases hisLt : isLt x3 = true
    · have HisLt : Aside0 (irislexer_isLetter.f x3 = some true) := ⟨by rw [isLt_eq, hisLt]⟩
      have hP : isLD (chAt s m) = true := by rw [← HXC.out]; simp [isLD, hisLt]
      have HM : Aside0 (m < s.size) := ⟨ch_in isLD0 hP⟩
      have HINV2 : Aside0 (skipTo isLD s (m + 1) = skipTo isLD s n) := ⟨by rw [← skip_go isLD0 hP]; exact HINV.out⟩
      clear hP hisLt
      go_wp2_with (first | ((with_reducible refine gate_callee (f := 94) rfl ?_); refine goesL_ (some 12) rfl rfl Try.func94 (by kernel_rfl) rfl #[.int .u8 x3] rfl (by (try simp only [List.map_toArray, List.map_cons, List.map_nil]); first | done | rfl) ?_; refine (irislexer_isLetter.calls x3 _ _ HisLt.out).mono ?_; rintro e wq ⟨rfl, ⟨nd, rfl⟩⟩; refine ⟨_, rfl, ?_⟩) | ((with_reducible refine gate_callee (f := 91) rfl ?_); refine goesL_ (some 21) rfl rfl Try.func91 (by kernel_rfl) rfl #[.pointer (some ⟨g, 0, none⟩)] rfl (by (try simp only [List.map_toArray, List.map_cons, List.map_nil]); first | done | rfl) ?_; refine (readNext_calls _ g s m (by exact HL.out.heap rfl) (by have := HM.out; have := HS.out; omega)).mono ?_; rintro e wq ⟨rfl, hl, ho⟩; refine ⟨_, rfl, ?_⟩; have HL2 := Aside0.mk hl; have HO2 := Aside0.mk (Onl.trans (by first | exact HO.out | exact HO.out.drewN _) ho); clear hl ho))
      simp only [Act.put, List.setIfInBounds_toArray, List.set_cons_succ, List.set_cons_zero]
      go_roundw
      case measure => show s.size - posW _ g < s.size - posW _ g; rw [HL2.out.pos, LN.pos (HL.out.heap rfl)]; have := HM.out; omega
      case rel => exact ⟨m + 1, HL2, HINV2, ⟨by have := HNM.out; have := HM.out; omega⟩, ⟨HO2.out⟩⟩
    · have HisLt : Aside0 (irislexer_isLetter.f x3 = some false) := ⟨by rw [isLt_eq, Bool.eq_false_iff.2 hisLt]⟩
      by_cases hisDg : isDg x3 = true
      · have HisDg : Aside0 (irislexer_isDigit.f x3 = some true) := ⟨by rw [isDg_eq, hisDg]⟩
        have hP : isLD (chAt s m) = true := by rw [← HXC.out]; simp [isLD, hisDg]
        have HM : Aside0 (m < s.size) := ⟨ch_in isLD0 hP⟩
        have HINV2 : Aside0 (skipTo isLD s (m + 1) = skipTo isLD s n) := ⟨by rw [← skip_go isLD0 hP]; exact HINV.out⟩
        clear hP hisDg
        go_wp2_with (first | ((with_reducible refine gate_callee (f := 94) rfl ?_); refine goesL_ (some 12) rfl rfl Try.func94 (by kernel_rfl) rfl #[.int .u8 x3] rfl (by (try simp only [List.map_toArray, List.map_cons, List.map_nil]); first | done | rfl) ?_; refine (irislexer_isLetter.calls x3 _ _ HisLt.out).mono ?_; rintro e wq ⟨rfl, ⟨nd, rfl⟩⟩; refine ⟨_, rfl, ?_⟩) | ((with_reducible refine gate_callee (f := 98) rfl ?_); (refine gate_guard (by kernel_rfl) ?_); refine goesL_ (some 18) rfl rfl Try.func98 (by kernel_rfl) rfl #[.int .u8 x3] rfl (by (try simp only [List.map_toArray, List.map_cons, List.map_nil]); first | done | rfl) ?_; refine (irislexer_isDigit.calls x3 _ _ HisDg.out).mono ?_; rintro e wq ⟨rfl, ⟨nd, rfl⟩⟩; refine ⟨_, rfl, ?_⟩) | ((with_reducible refine gate_callee (f := 91) rfl ?_); refine goesL_ (some 21) rfl rfl Try.func91 (by kernel_rfl) rfl #[.pointer (some ⟨g, 0, none⟩)] rfl (by (try simp only [List.map_toArray, List.map_cons, List.map_nil]); first | done | rfl) ?_; refine (readNext_calls _ g s m (by exact HL.out.heap rfl) (by have := HM.out; have := HS.out; omega)).mono ?_; rintro e wq ⟨rfl, hl, ho⟩; refine ⟨_, rfl, ?_⟩; have HL2 := Aside0.mk hl; have HO2 := Aside0.mk (Onl.trans (by first | exact HO.out | exact HO.out.drewN _) ho); clear hl ho))
        simp only [Act.put, List.setIfInBounds_toArray, List.set_cons_succ, List.set_cons_zero]
        go_roundw
        case measure => show s.size - posW _ g < s.size - posW _ g; rw [HL2.out.pos, LN.pos (HL.out.heap rfl)]; have := HM.out; omega
        case rel => exact ⟨m + 1, HL2, HINV2, ⟨by have := HNM.out; have := HM.out; omega⟩, ⟨HO2.out⟩⟩
      · have HisDg : Aside0 (irislexer_isDigit.f x3 = some false) := ⟨by rw [isDg_eq, Bool.eq_false_iff.2 hisDg]⟩
        have hP : isLD (chAt s m) = false := by rw [← HXC.out]; simp [isLD, hisLt, hisDg]
        have HEND : Aside0 (skipTo isLD s n = m) := ⟨by rw [← HINV.out]; exact skip_stop hP⟩
        have f0 := LX.c0 HL.out
        have f1 := LX.c1 HL.out
        obtain ⟨xm, hxm⟩ : ∃ x : Int, x = (m : Int) := ⟨_, rfl⟩
        rw [← hxm] at f1
        have HXM := Aside0.mk hxm
        have q1 : (0 ≤ xn) = True := eq_true (by have := HXN.out; omega)
        have q2 : (xn ≤ xm) = True := eq_true (by have := HXN.out; have := HNM.out; omega)
        have q3 : (xm ≤ (s.size : Int)) = True := eq_true (by have := HNM.out; omega)
        clear hP hxm hisLt hisDg
        go_wp2_with (first | ((with_reducible refine gate_callee (f := 94) rfl ?_); refine goesL_ (some 12) rfl rfl Try.func94 (by kernel_rfl) rfl #[.int .u8 x3] rfl (by (try simp only [List.map_toArray, List.map_cons, List.map_nil]); first | done | rfl) ?_; refine (irislexer_isLetter.calls x3 _ _ HisLt.out).mono ?_; rintro e wq ⟨rfl, ⟨nd, rfl⟩⟩; refine ⟨_, rfl, ?_⟩) | ((with_reducible refine gate_callee (f := 98) rfl ?_); (refine gate_guard (by kernel_rfl) ?_); refine goesL_ (some 18) rfl rfl Try.func98 (by kernel_rfl) rfl #[.int .u8 x3] rfl (by (try simp only [List.map_toArray, List.map_cons, List.map_nil]); first | done | rfl) ?_; refine (irislexer_isDigit.calls x3 _ _ HisDg.out).mono ?_; rintro e wq ⟨rfl, ⟨nd, rfl⟩⟩; refine ⟨_, rfl, ?_⟩))
        repeat (go_quiet (fail); try go_wp2)
        go_ret
        refine ⟨?_, ?_, by first | exact HO.out | exact HO.out.drewN _ | exact (HO.out.drewN _).drewN _⟩
        · rw [HEND.out]; rw [HXN.out, HXM.out]; rfl
        · rw [HEND.out]; exact HL.out.heap rfl
end Go.Proofs.Ytipmmjbjgbfgjaa.Q
