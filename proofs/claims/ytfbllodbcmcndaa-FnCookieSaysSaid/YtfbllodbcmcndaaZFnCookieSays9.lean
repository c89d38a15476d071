/- FnCookieSays: the law's function, called with any arguments, returns true and leaves its arguments as they were: every input, no condition. Part 10 of 12. -/
import Derived.Test.YtfbllodbcmcndaaZFnCookieSays1
import Derived.Test.YtfbllodbcmcndaaZFnCookieSays6
import Derived.Test.YtfbllodbcmcndaaZFnCookieSays7
import Derived.Test.YtfbllodbcmcndaaZFnCookieSays8
section
namespace Go.Proofs.Ytfbllodbcmcndaa.Q
open Go.RowKit Go.Proofs.YtfbllodbcmcndaaW.PrintWords Go.Proofs.YtfbllodbcmcndaaW.PrintLast Go.Proofs.YtfbllodbcmcndaaW.PrintMore
attribute [local go_sem] max2_int min2_int max_two min_two max_three min_three max_four min_four
set_option linter.unusedVariables false
set_option linter.unusedSimpArgs false
mutual
def spec_CookieText.j0 : Nat → Bool → ByteArray → ByteArray → ByteArray → ByteArray → Int → Int → Bool → Bool → Bool → Option (ByteArray × Int)
 | 0, _, _, _, _, _, _, _, _, _, _ => none
 | k + 1, x73, x276000, x276001, x276002, x276003, x276004, x276005, x276006, x276007, x276008 => if x73 = true then (some ((⟨#[]⟩ : ByteArray), 2)) else (if x276000.size + 1 ≤ 9223372036854775807 then (if x276000.size + 1 + x276001.size ≤ 9223372036854775807 then (if x276004 > 0 then ((spec_decimal.f k x276004).bind fun t283 => (if 10 + t283.size ≤ 9223372036854775807 then (if x276000.size + 1 + x276001.size + (10 + t283.size) ≤ 9223372036854775807 then (spec_CookieText.j1 k (((x276000 ++ (⟨#[61]⟩ : ByteArray)) ++ x276001) ++ ((⟨#[59, 32, 109, 97, 120, 45, 97, 103, 101, 61]⟩ : ByteArray) ++ t283)) x276000 x276001 x276002 x276003 x276004 x276005 x276006 x276007 x276008) else (none)) else (none))) else (spec_CookieText.j1 k ((x276000 ++ (⟨#[61]⟩ : ByteArray)) ++ x276001) x276000 x276001 x276002 x276003 x276004 x276005 x276006 x276007 x276008)) else (none)) else (none))
def spec_CookieText.j1 : Nat → ByteArray → ByteArray → ByteArray → ByteArray → ByteArray → Int → Int → Bool → Bool → Bool → Option (ByteArray × Int)
 | 0, _, _, _, _, _, _, _, _, _, _ => none
 | k + 1, x6, x276000, x276001, x276002, x276003, x276004, x276005, x276006, x276007, x276008 => if x276002.toList = ([] : List UInt8) then (spec_CookieText.j2 k x6 x276000 x276001 x276002 x276003 x276004 x276005 x276006 x276007 x276008) else (if 9 + x276002.size ≤ 9223372036854775807 then (if x6.size + (9 + x276002.size) ≤ 9223372036854775807 then (spec_CookieText.j2 k (x6 ++ ((⟨#[59, 32, 100, 111, 109, 97, 105, 110, 61]⟩ : ByteArray) ++ x276002)) x276000 x276001 x276002 x276003 x276004 x276005 x276006 x276007 x276008) else (none)) else (none))
def spec_CookieText.j2 : Nat → ByteArray → ByteArray → ByteArray → ByteArray → ByteArray → Int → Int → Bool → Bool → Bool → Option (ByteArray × Int)
 | 0, _, _, _, _, _, _, _, _, _, _ => none
 | k + 1, x6, x276000, x276001, x276002, x276003, x276004, x276005, x276006, x276007, x276008 => if x276003.toList = ([] : List UInt8) then (spec_CookieText.j3 k x6 x276000 x276001 x276002 x276003 x276004 x276005 x276006 x276007 x276008) else (if 7 + x276003.size ≤ 9223372036854775807 then (if x6.size + (7 + x276003.size) ≤ 9223372036854775807 then (spec_CookieText.j3 k (x6 ++ ((⟨#[59, 32, 112, 97, 116, 104, 61]⟩ : ByteArray) ++ x276003)) x276000 x276001 x276002 x276003 x276004 x276005 x276006 x276007 x276008) else (none)) else (none))
def spec_CookieText.j3 : Nat → ByteArray → ByteArray → ByteArray → ByteArray → ByteArray → Int → Int → Bool → Bool → Bool → Option (ByteArray × Int)
 | 0, _, _, _, _, _, _, _, _, _, _ => none
 | k + 1, x6, x276000, x276001, x276002, x276003, x276004, x276005, x276006, x276007, x276008 => if x276006 = true then (if x6.size + 10 ≤ 9223372036854775807 then (spec_CookieText.j4 k (x6 ++ (⟨#[59, 32, 72, 116, 116, 112, 79, 110, 108, 121]⟩ : ByteArray)) x276000 x276001 x276002 x276003 x276004 x276005 x276006 x276007 x276008) else (none)) else (spec_CookieText.j4 k x6 x276000 x276001 x276002 x276003 x276004 x276005 x276006 x276007 x276008)
def spec_CookieText.j4 : Nat → ByteArray → ByteArray → ByteArray → ByteArray → ByteArray → Int → Int → Bool → Bool → Bool → Option (ByteArray × Int)
 | 0, _, _, _, _, _, _, _, _, _, _ => none
 | k + 1, x6, x276000, x276001, x276002, x276003, x276004, x276005, x276006, x276007, x276008 => if x276007 = true then (spec_CookieText.j5 k x6 true x276000 x276001 x276002 x276003 x276004 x276005 x276006 x276007 x276008) else (spec_CookieText.j5 k x6 (x276005 == 4) x276000 x276001 x276002 x276003 x276004 x276005 x276006 x276007 x276008)
def spec_CookieText.j5 : Nat → ByteArray → Bool → ByteArray → ByteArray → ByteArray → ByteArray → Int → Int → Bool → Bool → Bool → Option (ByteArray × Int)
 | 0, _, _, _, _, _, _, _, _, _, _, _ => none
 | k + 1, x6, x115, x276000, x276001, x276002, x276003, x276004, x276005, x276006, x276007, x276008 => if x115 = true then (if x6.size + 8 ≤ 9223372036854775807 then (spec_CookieText.j6 k (x6 ++ (⟨#[59, 32, 115, 101, 99, 117, 114, 101]⟩ : ByteArray)) x276000 x276001 x276002 x276003 x276004 x276005 x276006 x276007 x276008) else (none)) else (spec_CookieText.j6 k x6 x276000 x276001 x276002 x276003 x276004 x276005 x276006 x276007 x276008)
def spec_CookieText.j6 : Nat → ByteArray → ByteArray → ByteArray → ByteArray → ByteArray → Int → Int → Bool → Bool → Bool → Option (ByteArray × Int)
 | 0, _, _, _, _, _, _, _, _, _, _ => none
 | k + 1, x6, x276000, x276001, x276002, x276003, x276004, x276005, x276006, x276007, x276008 => if x276005 = 1 then (if x6.size + 10 ≤ 9223372036854775807 then (some (x6 ++ (⟨#[59, 32, 83, 97, 109, 101, 83, 105, 116, 101]⟩ : ByteArray), 1)) else (none)) else (if x276005 = 2 then (if x6.size + 14 ≤ 9223372036854775807 then (some (x6 ++ (⟨#[59, 32, 83, 97, 109, 101, 83, 105, 116, 101, 61, 76, 97, 120]⟩ : ByteArray), 1)) else (none)) else (if x276005 = 3 then (if x6.size + 17 ≤ 9223372036854775807 then (some (x6 ++ (⟨#[59, 32, 83, 97, 109, 101, 83, 105, 116, 101, 61, 83, 116, 114, 105, 99, 116]⟩ : ByteArray), 1)) else (none)) else (if x276005 = 4 then (if x6.size + 15 ≤ 9223372036854775807 then (some (x6 ++ (⟨#[59, 32, 83, 97, 109, 101, 83, 105, 116, 101, 61, 78, 111, 110, 101]⟩ : ByteArray), 1)) else (none)) else (some (x6, 1)))))
end
def spec_CookieText.f (k : Nat) (a0_0 : ByteArray) (a0_1 : ByteArray) (a0_2 : ByteArray) (a0_3 : ByteArray) (a0_4 : Int) (a0_5 : Int) (a0_6 : Bool) (a0_7 : Bool) (a0_8 : Bool) : Option (ByteArray × Int) := (spec_CleanPath.f k a0_3).bind fun bt276 => ((spec_token.f k a0_0).bind fun t278 => (if t278 = true then ((spec_token.f k a0_1).bind fun t279 => (if t279 = true then (if a0_2.toList = ([] : List UInt8) then (if a0_3.toList = ([] : List UInt8) then (if a0_8 = true then (spec_CookieText.j0 k true a0_0 a0_1 a0_2 a0_3 a0_4 a0_5 a0_6 a0_7 a0_8) else (if a0_4 < 0 then (spec_CookieText.j0 k true a0_0 a0_1 a0_2 a0_3 a0_4 a0_5 a0_6 a0_7 a0_8) else (if a0_5 < 0 then (spec_CookieText.j0 k true a0_0 a0_1 a0_2 a0_3 a0_4 a0_5 a0_6 a0_7 a0_8) else (spec_CookieText.j0 k (decide (a0_5 > 4)) a0_0 a0_1 a0_2 a0_3 a0_4 a0_5 a0_6 a0_7 a0_8)))) else (if bt276.2 = 1 then (if bt276.1.toList = a0_3.toList then ((spec_quoted.f k bt276.1 (⟨#[47]⟩ : ByteArray) (⟨#[]⟩ : ByteArray)).bind fun t280 => (if t280.toList = bt276.1.toList then (if a0_8 = true then (spec_CookieText.j0 k true a0_0 a0_1 a0_2 a0_3 a0_4 a0_5 a0_6 a0_7 a0_8) else (if a0_4 < 0 then (spec_CookieText.j0 k true a0_0 a0_1 a0_2 a0_3 a0_4 a0_5 a0_6 a0_7 a0_8) else (if a0_5 < 0 then (spec_CookieText.j0 k true a0_0 a0_1 a0_2 a0_3 a0_4 a0_5 a0_6 a0_7 a0_8) else (spec_CookieText.j0 k (decide (a0_5 > 4)) a0_0 a0_1 a0_2 a0_3 a0_4 a0_5 a0_6 a0_7 a0_8)))) else (spec_CookieText.j0 k true a0_0 a0_1 a0_2 a0_3 a0_4 a0_5 a0_6 a0_7 a0_8))) else (spec_CookieText.j0 k true a0_0 a0_1 a0_2 a0_3 a0_4 a0_5 a0_6 a0_7 a0_8)) else (spec_CookieText.j0 k true a0_0 a0_1 a0_2 a0_3 a0_4 a0_5 a0_6 a0_7 a0_8))) else ((spec_token.f k a0_2).bind fun t281 => (if t281 = true then (if a0_3.toList = ([] : List UInt8) then (if a0_8 = true then (spec_CookieText.j0 k true a0_0 a0_1 a0_2 a0_3 a0_4 a0_5 a0_6 a0_7 a0_8) else (if a0_4 < 0 then (spec_CookieText.j0 k true a0_0 a0_1 a0_2 a0_3 a0_4 a0_5 a0_6 a0_7 a0_8) else (if a0_5 < 0 then (spec_CookieText.j0 k true a0_0 a0_1 a0_2 a0_3 a0_4 a0_5 a0_6 a0_7 a0_8) else (spec_CookieText.j0 k (decide (a0_5 > 4)) a0_0 a0_1 a0_2 a0_3 a0_4 a0_5 a0_6 a0_7 a0_8)))) else (if bt276.2 = 1 then (if bt276.1.toList = a0_3.toList then ((spec_quoted.f k bt276.1 (⟨#[47]⟩ : ByteArray) (⟨#[]⟩ : ByteArray)).bind fun t282 => (if t282.toList = bt276.1.toList then (if a0_8 = true then (spec_CookieText.j0 k true a0_0 a0_1 a0_2 a0_3 a0_4 a0_5 a0_6 a0_7 a0_8) else (if a0_4 < 0 then (spec_CookieText.j0 k true a0_0 a0_1 a0_2 a0_3 a0_4 a0_5 a0_6 a0_7 a0_8) else (if a0_5 < 0 then (spec_CookieText.j0 k true a0_0 a0_1 a0_2 a0_3 a0_4 a0_5 a0_6 a0_7 a0_8) else (spec_CookieText.j0 k (decide (a0_5 > 4)) a0_0 a0_1 a0_2 a0_3 a0_4 a0_5 a0_6 a0_7 a0_8)))) else (spec_CookieText.j0 k true a0_0 a0_1 a0_2 a0_3 a0_4 a0_5 a0_6 a0_7 a0_8))) else (spec_CookieText.j0 k true a0_0 a0_1 a0_2 a0_3 a0_4 a0_5 a0_6 a0_7 a0_8)) else (spec_CookieText.j0 k true a0_0 a0_1 a0_2 a0_3 a0_4 a0_5 a0_6 a0_7 a0_8))) else (spec_CookieText.j0 k true a0_0 a0_1 a0_2 a0_3 a0_4 a0_5 a0_6 a0_7 a0_8)))) else (spec_CookieText.j0 k true a0_0 a0_1 a0_2 a0_3 a0_4 a0_5 a0_6 a0_7 a0_8))) else (spec_CookieText.j0 k true a0_0 a0_1 a0_2 a0_3 a0_4 a0_5 a0_6 a0_7 a0_8)))
set_option maxHeartbeats 8000000 in
set_option maxRecDepth 100000 in
theorem spec_CookieText.calls (k : Nat) (a0_0 : ByteArray) (a0_1 : ByteArray) (a0_2 : ByteArray) (a0_3 : ByteArray) (a0_4 : Int) (a0_5 : Int) (a0_6 : Bool) (a0_7 : Bool) (a0_8 : Bool) (r1 : ByteArray) (r2 : Int) (w : World) (h : spec_CookieText.f k a0_0 a0_1 a0_2 a0_3 a0_4 a0_5 a0_6 a0_7 a0_8 = some (r1, r2)) :
  Calls Try.prog 27 #[.agg #[.string a0_0, .string a0_1, .string a0_2, .string a0_3, .int .i64 a0_4, .int .i64 a0_5, .bool a0_6, .bool a0_7, .bool a0_8]] w fun e w' => e = .returned (.tuple #[.string r1, .int .i64 r2]) ∧ Below w.heap.size w w' := by
 have hu60 := Try.underlying60
 have HB := Aside0.mk (Below.refl w.heap.size w)
 have H : ((spec_CleanPath.f k a0_3).bind fun bt276 => ((spec_token.f k a0_0).bind fun t278 => (if t278 = true then ((spec_token.f k a0_1).bind fun t279 => (if t279 = true then (if a0_2.toList = ([] : List UInt8) then (if a0_3.toList = ([] : List UInt8) then (if a0_8 = true then (spec_CookieText.j0 k true a0_0 a0_1 a0_2 a0_3 a0_4 a0_5 a0_6 a0_7 a0_8) else (if a0_4 < 0 then (spec_CookieText.j0 k true a0_0 a0_1 a0_2 a0_3 a0_4 a0_5 a0_6 a0_7 a0_8) else (if a0_5 < 0 then (spec_CookieText.j0 k true a0_0 a0_1 a0_2 a0_3 a0_4 a0_5 a0_6 a0_7 a0_8) else (spec_CookieText.j0 k (decide (a0_5 > 4)) a0_0 a0_1 a0_2 a0_3 a0_4 a0_5 a0_6 a0_7 a0_8)))) else (if bt276.2 = 1 then (if bt276.1.toList = a0_3.toList then ((spec_quoted.f k bt276.1 (⟨#[47]⟩ : ByteArray) (⟨#[]⟩ : ByteArray)).bind fun t280 => (if t280.toList = bt276.1.toList then (if a0_8 = true then (spec_CookieText.j0 k true a0_0 a0_1 a0_2 a0_3 a0_4 a0_5 a0_6 a0_7 a0_8) else (if a0_4 < 0 then (spec_CookieText.j0 k true a0_0 a0_1 a0_2 a0_3 a0_4 a0_5 a0_6 a0_7 a0_8) else (if a0_5 < 0 then (spec_CookieText.j0 k true a0_0 a0_1 a0_2 a0_3 a0_4 a0_5 a0_6 a0_7 a0_8) else (spec_CookieText.j0 k (decide (a0_5 > 4)) a0_0 a0_1 a0_2 a0_3 a0_4 a0_5 a0_6 a0_7 a0_8)))) else (spec_CookieText.j0 k true a0_0 a0_1 a0_2 a0_3 a0_4 a0_5 a0_6 a0_7 a0_8))) else (spec_CookieText.j0 k true a0_0 a0_1 a0_2 a0_3 a0_4 a0_5 a0_6 a0_7 a0_8)) else (spec_CookieText.j0 k true a0_0 a0_1 a0_2 a0_3 a0_4 a0_5 a0_6 a0_7 a0_8))) else ((spec_token.f k a0_2).bind fun t281 => (if t281 = true then (if a0_3.toList = ([] : List UInt8) then (if a0_8 = true then (spec_CookieText.j0 k true a0_0 a0_1 a0_2 a0_3 a0_4 a0_5 a0_6 a0_7 a0_8) else (if a0_4 < 0 then (spec_CookieText.j0 k true a0_0 a0_1 a0_2 a0_3 a0_4 a0_5 a0_6 a0_7 a0_8) else (if a0_5 < 0 then (spec_CookieText.j0 k true a0_0 a0_1 a0_2 a0_3 a0_4 a0_5 a0_6 a0_7 a0_8) else (spec_CookieText.j0 k (decide (a0_5 > 4)) a0_0 a0_1 a0_2 a0_3 a0_4 a0_5 a0_6 a0_7 a0_8)))) else (if bt276.2 = 1 then (if bt276.1.toList = a0_3.toList then ((spec_quoted.f k bt276.1 (⟨#[47]⟩ : ByteArray) (⟨#[]⟩ : ByteArray)).bind fun t282 => (if t282.toList = bt276.1.toList then (if a0_8 = true then (spec_CookieText.j0 k true a0_0 a0_1 a0_2 a0_3 a0_4 a0_5 a0_6 a0_7 a0_8) else (if a0_4 < 0 then (spec_CookieText.j0 k true a0_0 a0_1 a0_2 a0_3 a0_4 a0_5 a0_6 a0_7 a0_8) else (if a0_5 < 0 then (spec_CookieText.j0 k true a0_0 a0_1 a0_2 a0_3 a0_4 a0_5 a0_6 a0_7 a0_8) else (spec_CookieText.j0 k (decide (a0_5 > 4)) a0_0 a0_1 a0_2 a0_3 a0_4 a0_5 a0_6 a0_7 a0_8)))) else (spec_CookieText.j0 k true a0_0 a0_1 a0_2 a0_3 a0_4 a0_5 a0_6 a0_7 a0_8))) else (spec_CookieText.j0 k true a0_0 a0_1 a0_2 a0_3 a0_4 a0_5 a0_6 a0_7 a0_8)) else (spec_CookieText.j0 k true a0_0 a0_1 a0_2 a0_3 a0_4 a0_5 a0_6 a0_7 a0_8))) else (spec_CookieText.j0 k true a0_0 a0_1 a0_2 a0_3 a0_4 a0_5 a0_6 a0_7 a0_8)))) else (spec_CookieText.j0 k true a0_0 a0_1 a0_2 a0_3 a0_4 a0_5 a0_6 a0_7 a0_8))) else (spec_CookieText.j0 k true a0_0 a0_1 a0_2 a0_3 a0_4 a0_5 a0_6 a0_7 a0_8)))) = some (r1, r2) := h
 clear h
 replace H := Option.bind_eq_some_iff.mp H
 obtain ⟨⟨t276, t277⟩, A20, H⟩ := H
 replace H : ((spec_token.f k a0_0).bind fun t278 => (if t278 = true then ((spec_token.f k a0_1).bind fun t279 => (if t279 = true then (if a0_2.toList = ([] : List UInt8) then (if a0_3.toList = ([] : List UInt8) then (if a0_8 = true then (spec_CookieText.j0 k true a0_0 a0_1 a0_2 a0_3 a0_4 a0_5 a0_6 a0_7 a0_8) else (if a0_4 < 0 then (spec_CookieText.j0 k true a0_0 a0_1 a0_2 a0_3 a0_4 a0_5 a0_6 a0_7 a0_8) else (if a0_5 < 0 then (spec_CookieText.j0 k true a0_0 a0_1 a0_2 a0_3 a0_4 a0_5 a0_6 a0_7 a0_8) else (spec_CookieText.j0 k (decide (a0_5 > 4)) a0_0 a0_1 a0_2 a0_3 a0_4 a0_5 a0_6 a0_7 a0_8)))) else (if t277 = 1 then (if t276.toList = a0_3.toList then ((spec_quoted.f k t276 (⟨#[47]⟩ : ByteArray) (⟨#[]⟩ : ByteArray)).bind fun t280 => (if t280.toList = t276.toList then (if a0_8 = true then (spec_CookieText.j0 k true a0_0 a0_1 a0_2 a0_3 a0_4 a0_5 a0_6 a0_7 a0_8) else (if a0_4 < 0 then (spec_CookieText.j0 k true a0_0 a0_1 a0_2 a0_3 a0_4 a0_5 a0_6 a0_7 a0_8) else (if a0_5 < 0 then (spec_CookieText.j0 k true a0_0 a0_1 a0_2 a0_3 a0_4 a0_5 a0_6 a0_7 a0_8) else (spec_CookieText.j0 k (decide (a0_5 > 4)) a0_0 a0_1 a0_2 a0_3 a0_4 a0_5 a0_6 a0_7 a0_8)))) else (spec_CookieText.j0 k true a0_0 a0_1 a0_2 a0_3 a0_4 a0_5 a0_6 a0_7 a0_8))) else (spec_CookieText.j0 k true a0_0 a0_1 a0_2 a0_3 a0_4 a0_5 a0_6 a0_7 a0_8)) else (spec_CookieText.j0 k true a0_0 a0_1 a0_2 a0_3 a0_4 a0_5 a0_6 a0_7 a0_8))) else ((spec_token.f k a0_2).bind fun t281 => (if t281 = true then (if a0_3.toList = ([] : List UInt8) then (if a0_8 = true then (spec_CookieText.j0 k true a0_0 a0_1 a0_2 a0_3 a0_4 a0_5 a0_6 a0_7 a0_8) else (if a0_4 < 0 then (spec_CookieText.j0 k true a0_0 a0_1 a0_2 a0_3 a0_4 a0_5 a0_6 a0_7 a0_8) else (if a0_5 < 0 then (spec_CookieText.j0 k true a0_0 a0_1 a0_2 a0_3 a0_4 a0_5 a0_6 a0_7 a0_8) else (spec_CookieText.j0 k (decide (a0_5 > 4)) a0_0 a0_1 a0_2 a0_3 a0_4 a0_5 a0_6 a0_7 a0_8)))) else (if t277 = 1 then (if t276.toList = a0_3.toList then ((spec_quoted.f k t276 (⟨#[47]⟩ : ByteArray) (⟨#[]⟩ : ByteArray)).bind fun t282 => (if t282.toList = t276.toList then (if a0_8 = true then (spec_CookieText.j0 k true a0_0 a0_1 a0_2 a0_3 a0_4 a0_5 a0_6 a0_7 a0_8) else (if a0_4 < 0 then (spec_CookieText.j0 k true a0_0 a0_1 a0_2 a0_3 a0_4 a0_5 a0_6 a0_7 a0_8) else (if a0_5 < 0 then (spec_CookieText.j0 k true a0_0 a0_1 a0_2 a0_3 a0_4 a0_5 a0_6 a0_7 a0_8) else (spec_CookieText.j0 k (decide (a0_5 > 4)) a0_0 a0_1 a0_2 a0_3 a0_4 a0_5 a0_6 a0_7 a0_8)))) else (spec_CookieText.j0 k true a0_0 a0_1 a0_2 a0_3 a0_4 a0_5 a0_6 a0_7 a0_8))) else (spec_CookieText.j0 k true a0_0 a0_1 a0_2 a0_3 a0_4 a0_5 a0_6 a0_7 a0_8)) else (spec_CookieText.j0 k true a0_0 a0_1 a0_2 a0_3 a0_4 a0_5 a0_6 a0_7 a0_8))) else (spec_CookieText.j0 k true a0_0 a0_1 a0_2 a0_3 a0_4 a0_5 a0_6 a0_7 a0_8)))) else (spec_CookieText.j0 k true a0_0 a0_1 a0_2 a0_3 a0_4 a0_5 a0_6 a0_7 a0_8))) else (spec_CookieText.j0 k true a0_0 a0_1 a0_2 a0_3 a0_4 a0_5 a0_6 a0_7 a0_8))) = some (r1, r2) := H
 have A2 := Aside0.mk A20
 clear A20
 have HC3 := Aside0.mk H
 clear H
 go_enter Try.func27, Try.ntmps27
 go_upto_region 2 with (first | ((with_reducible refine gate_dst (N := 1) rfl ?_); refine box_event ?hg (N := 1) ?hd (cs := #[.string a0_0, .string a0_1, .string a0_2, .string a0_3, .int .i64 a0_4, .int .i64 a0_5, .bool a0_6, .bool a0_7, .bool a0_8]) (t := 60) ?hr ?_; (case hd => rfl); (case hg => rfl); (case hr => first | (go_simp; done) | (go_simp; rfl)); intro gb275 hg w4 hbox hb; have n0_ := Aside0.mk (below_step (by repeat (first | (with_reducible first | exact HB.out | apply below_alloc | apply pw_below_drewN | apply below_drew1) | exact HB.out)) hb); have n1_ := Aside0.mk (hbox); have n2_ := Aside0.mk ((by rw [hg]; exact (below_size (by repeat (first | (with_reducible first | exact HB.out | apply below_alloc | apply pw_below_drewN | apply below_drew1) | exact HB.out))) : w.heap.size ≤ gb275)); have n3_ := Aside0.mk ((by rw [hg]; exact (below_size (by repeat (first | (with_reducible first | exact HB.out | apply below_alloc | apply pw_below_drewN | apply below_drew1) | exact HB.out))) : w.heap.size ≤ gb275)); clear HB; have HB := n0_; have BK275 := n1_; have GW275 := n2_; have GE275 := n3_; clear n0_ n1_ n2_ n3_; clear hb hbox hg; have hcz5_0 : w4.cell? ⟨gb275, 0, none⟩ = some (.string a0_0) := (blk_cell BK275.out 0).trans rfl; have hcz5_1 : w4.cell? ⟨gb275, 1, none⟩ = some (.string a0_1) := (blk_cell BK275.out 1).trans rfl; have hcz5_2 : w4.cell? ⟨gb275, 2, none⟩ = some (.string a0_2) := (blk_cell BK275.out 2).trans rfl; have hcz5_3 : w4.cell? ⟨gb275, 3, none⟩ = some (.string a0_3) := (blk_cell BK275.out 3).trans rfl; have hcz5_4 : w4.cell? ⟨gb275, 4, none⟩ = some (.int .i64 a0_4) := (blk_cell BK275.out 4).trans rfl; have hcz5_5 : w4.cell? ⟨gb275, 5, none⟩ = some (.int .i64 a0_5) := (blk_cell BK275.out 5).trans rfl; have hcz5_6 : w4.cell? ⟨gb275, 6, none⟩ = some (.bool a0_6) := (blk_cell BK275.out 6).trans rfl; have hcz5_7 : w4.cell? ⟨gb275, 7, none⟩ = some (.bool a0_7) := (blk_cell BK275.out 7).trans rfl; have hcz5_8 : w4.cell? ⟨gb275, 8, none⟩ = some (.bool a0_8) := (blk_cell BK275.out 8).trans rfl; have hfz5_0 := blk_frozen BK275.out 0; have hfz5_1 := blk_frozen BK275.out 1; have hfz5_2 := blk_frozen BK275.out 2; have hfz5_3 := blk_frozen BK275.out 3; have hfz5_4 := blk_frozen BK275.out 4; have hfz5_5 := blk_frozen BK275.out 5; have hfz5_6 := blk_frozen BK275.out 6; have hfz5_7 := blk_frozen BK275.out 7; have hfz5_8 := blk_frozen BK275.out 8) | ((with_reducible refine gate_callee (f := 61) rfl ?_); refine goesL_ (some 10) rfl rfl Try.func61 (by kernel_rfl) rfl #[.string a0_3] rfl (by (try simp only [List.map_toArray, List.map_cons, List.map_nil]); first | done | rfl | (simp only [List.length_drop, List.length_take]; rfl)) ?_; (with_reducible refine (spec_CleanPath.calls k a0_3 t276 t277 _ A2.out).mono ?_); rintro e w6 ⟨rfl, hb⟩; refine ⟨_, rfl, ?_⟩; have n0_ := Aside0.mk (blk_below (g := gb275) (o := .cells #[.string a0_0, .string a0_1, .string a0_2, .string a0_3, .int .i64 a0_4, .int .i64 a0_5, .bool a0_6, .bool a0_7, .bool a0_8] 60 (0, 0)) (by (with_reducible repeat (first | refine blk_drewN ?_ _ | refine blk_drew ?_ | refine blk_alloc ?_ _)); exact BK275.out) hb); have n1_ := Aside0.mk (below_step (by repeat (first | (with_reducible first | exact HB.out | apply below_alloc | apply pw_below_drewN | apply below_drew1 | refine below_set ?_ GE275.out) | exact HB.out)) hb); clear BK275; clear HB; have BK275 := n0_; have HB := n1_; clear n0_ n1_; (try clear hb); (try clear hb2); (try clear hk); (try clear hi)))
 (try simp only [Act.put, List.setIfInBounds_toArray, List.set_cons_zero, List.set_cons_succ])
 go_cut [73] (fun v73 wc => ∃ (kq : Nat) (x73_2 : Bool), v73 = .bool x73_2 ∧ Aside0 (spec_CookieText.j0 kq x73_2 a0_0 a0_1 a0_2 a0_3 a0_4 a0_5 a0_6 a0_7 a0_8 = some (r1, r2)) ∧ Aside0 (kq ≤ k) ∧ Aside0 (wc.heap[gb275]? = some (.cells #[.string a0_0, .string a0_1, .string a0_2, .string a0_3, .int .i64 a0_4, .int .i64 a0_5, .bool a0_6, .bool a0_7, .bool a0_8] 60 (0, 0))) ∧ Aside0 (Below w.heap.size w wc))
 case first =>
  have H := HC3.out
  clear HC3
  replace H := Option.bind_eq_some_iff.mp H
  obtain ⟨t278, A70, H⟩ := H
  replace H : (if t278 = true then ((spec_token.f k a0_1).bind fun t279 => (if t279 = true then (if a0_2.toList = ([] : List UInt8) then (if a0_3.toList = ([] : List UInt8) then (if a0_8 = true then (spec_CookieText.j0 k true a0_0 a0_1 a0_2 a0_3 a0_4 a0_5 a0_6 a0_7 a0_8) else (if a0_4 < 0 then (spec_CookieText.j0 k true a0_0 a0_1 a0_2 a0_3 a0_4 a0_5 a0_6 a0_7 a0_8) else (if a0_5 < 0 then (spec_CookieText.j0 k true a0_0 a0_1 a0_2 a0_3 a0_4 a0_5 a0_6 a0_7 a0_8) else (spec_CookieText.j0 k (decide (a0_5 > 4)) a0_0 a0_1 a0_2 a0_3 a0_4 a0_5 a0_6 a0_7 a0_8)))) else (if t277 = 1 then (if t276.toList = a0_3.toList then ((spec_quoted.f k t276 (⟨#[47]⟩ : ByteArray) (⟨#[]⟩ : ByteArray)).bind fun t280 => (if t280.toList = t276.toList then (if a0_8 = true then (spec_CookieText.j0 k true a0_0 a0_1 a0_2 a0_3 a0_4 a0_5 a0_6 a0_7 a0_8) else (if a0_4 < 0 then (spec_CookieText.j0 k true a0_0 a0_1 a0_2 a0_3 a0_4 a0_5 a0_6 a0_7 a0_8) else (if a0_5 < 0 then (spec_CookieText.j0 k true a0_0 a0_1 a0_2 a0_3 a0_4 a0_5 a0_6 a0_7 a0_8) else (spec_CookieText.j0 k (decide (a0_5 > 4)) a0_0 a0_1 a0_2 a0_3 a0_4 a0_5 a0_6 a0_7 a0_8)))) else (spec_CookieText.j0 k true a0_0 a0_1 a0_2 a0_3 a0_4 a0_5 a0_6 a0_7 a0_8))) else (spec_CookieText.j0 k true a0_0 a0_1 a0_2 a0_3 a0_4 a0_5 a0_6 a0_7 a0_8)) else (spec_CookieText.j0 k true a0_0 a0_1 a0_2 a0_3 a0_4 a0_5 a0_6 a0_7 a0_8))) else ((spec_token.f k a0_2).bind fun t281 => (if t281 = true then (if a0_3.toList = ([] : List UInt8) then (if a0_8 = true then (spec_CookieText.j0 k true a0_0 a0_1 a0_2 a0_3 a0_4 a0_5 a0_6 a0_7 a0_8) else (if a0_4 < 0 then (spec_CookieText.j0 k true a0_0 a0_1 a0_2 a0_3 a0_4 a0_5 a0_6 a0_7 a0_8) else (if a0_5 < 0 then (spec_CookieText.j0 k true a0_0 a0_1 a0_2 a0_3 a0_4 a0_5 a0_6 a0_7 a0_8) else (spec_CookieText.j0 k (decide (a0_5 > 4)) a0_0 a0_1 a0_2 a0_3 a0_4 a0_5 a0_6 a0_7 a0_8)))) else (if t277 = 1 then (if t276.toList = a0_3.toList then ((spec_quoted.f k t276 (⟨#[47]⟩ : ByteArray) (⟨#[]⟩ : ByteArray)).bind fun t282 => (if t282.toList = t276.toList then (if a0_8 = true then (spec_CookieText.j0 k true a0_0 a0_1 a0_2 a0_3 a0_4 a0_5 a0_6 a0_7 a0_8) else (if a0_4 < 0 then (spec_CookieText.j0 k true a0_0 a0_1 a0_2 a0_3 a0_4 a0_5 a0_6 a0_7 a0_8) else (if a0_5 < 0 then (spec_CookieText.j0 k true a0_0 a0_1 a0_2 a0_3 a0_4 a0_5 a0_6 a0_7 a0_8) else (spec_CookieText.j0 k (decide (a0_5 > 4)) a0_0 a0_1 a0_2 a0_3 a0_4 a0_5 a0_6 a0_7 a0_8)))) else (spec_CookieText.j0 k true a0_0 a0_1 a0_2 a0_3 a0_4 a0_5 a0_6 a0_7 a0_8))) else (spec_CookieText.j0 k true a0_0 a0_1 a0_2 a0_3 a0_4 a0_5 a0_6 a0_7 a0_8)) else (spec_CookieText.j0 k true a0_0 a0_1 a0_2 a0_3 a0_4 a0_5 a0_6 a0_7 a0_8))) else (spec_CookieText.j0 k true a0_0 a0_1 a0_2 a0_3 a0_4 a0_5 a0_6 a0_7 a0_8)))) else (spec_CookieText.j0 k true a0_0 a0_1 a0_2 a0_3 a0_4 a0_5 a0_6 a0_7 a0_8))) else (spec_CookieText.j0 k true a0_0 a0_1 a0_2 a0_3 a0_4 a0_5 a0_6 a0_7 a0_8)) = some (r1, r2) := H
  have A7 := Aside0.mk A70
  clear A70
  by_cases c8 : t278 = true
  ·
   subst c8
   have H1 : ((spec_token.f k a0_1).bind fun t279 => (if t279 = true then (if a0_2.toList = ([] : List UInt8) then (if a0_3.toList = ([] : List UInt8) then (if a0_8 = true then (spec_CookieText.j0 k true a0_0 a0_1 a0_2 a0_3 a0_4 a0_5 a0_6 a0_7 a0_8) else (if a0_4 < 0 then (spec_CookieText.j0 k true a0_0 a0_1 a0_2 a0_3 a0_4 a0_5 a0_6 a0_7 a0_8) else (if a0_5 < 0 then (spec_CookieText.j0 k true a0_0 a0_1 a0_2 a0_3 a0_4 a0_5 a0_6 a0_7 a0_8) else (spec_CookieText.j0 k (decide (a0_5 > 4)) a0_0 a0_1 a0_2 a0_3 a0_4 a0_5 a0_6 a0_7 a0_8)))) else (if t277 = 1 then (if t276.toList = a0_3.toList then ((spec_quoted.f k t276 (⟨#[47]⟩ : ByteArray) (⟨#[]⟩ : ByteArray)).bind fun t280 => (if t280.toList = t276.toList then (if a0_8 = true then (spec_CookieText.j0 k true a0_0 a0_1 a0_2 a0_3 a0_4 a0_5 a0_6 a0_7 a0_8) else (if a0_4 < 0 then (spec_CookieText.j0 k true a0_0 a0_1 a0_2 a0_3 a0_4 a0_5 a0_6 a0_7 a0_8) else (if a0_5 < 0 then (spec_CookieText.j0 k true a0_0 a0_1 a0_2 a0_3 a0_4 a0_5 a0_6 a0_7 a0_8) else (spec_CookieText.j0 k (decide (a0_5 > 4)) a0_0 a0_1 a0_2 a0_3 a0_4 a0_5 a0_6 a0_7 a0_8)))) else (spec_CookieText.j0 k true a0_0 a0_1 a0_2 a0_3 a0_4 a0_5 a0_6 a0_7 a0_8))) else (spec_CookieText.j0 k true a0_0 a0_1 a0_2 a0_3 a0_4 a0_5 a0_6 a0_7 a0_8)) else (spec_CookieText.j0 k true a0_0 a0_1 a0_2 a0_3 a0_4 a0_5 a0_6 a0_7 a0_8))) else ((spec_token.f k a0_2).bind fun t281 => (if t281 = true then (if a0_3.toList = ([] : List UInt8) then (if a0_8 = true then (spec_CookieText.j0 k true a0_0 a0_1 a0_2 a0_3 a0_4 a0_5 a0_6 a0_7 a0_8) else (if a0_4 < 0 then (spec_CookieText.j0 k true a0_0 a0_1 a0_2 a0_3 a0_4 a0_5 a0_6 a0_7 a0_8) else (if a0_5 < 0 then (spec_CookieText.j0 k true a0_0 a0_1 a0_2 a0_3 a0_4 a0_5 a0_6 a0_7 a0_8) else (spec_CookieText.j0 k (decide (a0_5 > 4)) a0_0 a0_1 a0_2 a0_3 a0_4 a0_5 a0_6 a0_7 a0_8)))) else (if t277 = 1 then (if t276.toList = a0_3.toList then ((spec_quoted.f k t276 (⟨#[47]⟩ : ByteArray) (⟨#[]⟩ : ByteArray)).bind fun t282 => (if t282.toList = t276.toList then (if a0_8 = true then (spec_CookieText.j0 k true a0_0 a0_1 a0_2 a0_3 a0_4 a0_5 a0_6 a0_7 a0_8) else (if a0_4 < 0 then (spec_CookieText.j0 k true a0_0 a0_1 a0_2 a0_3 a0_4 a0_5 a0_6 a0_7 a0_8) else (if a0_5 < 0 then (spec_CookieText.j0 k true a0_0 a0_1 a0_2 a0_3 a0_4 a0_5 a0_6 a0_7 a0_8) else (spec_CookieText.j0 k (decide (a0_5 > 4)) a0_0 a0_1 a0_2 a0_3 a0_4 a0_5 a0_6 a0_7 a0_8)))) else (spec_CookieText.j0 k true a0_0 a0_1 a0_2 a0_3 a0_4 a0_5 a0_6 a0_7 a0_8))) else (spec_CookieText.j0 k true a0_0 a0_1 a0_2 a0_3 a0_4 a0_5 a0_6 a0_7 a0_8)) else (spec_CookieText.j0 k true a0_0 a0_1 a0_2 a0_3 a0_4 a0_5 a0_6 a0_7 a0_8))) else (spec_CookieText.j0 k true a0_0 a0_1 a0_2 a0_3 a0_4 a0_5 a0_6 a0_7 a0_8)))) else (spec_CookieText.j0 k true a0_0 a0_1 a0_2 a0_3 a0_4 a0_5 a0_6 a0_7 a0_8))) = some (r1, r2) := by rw [if_pos rfl] at H; exact H
   clear H
   have H := H1
   clear H1
   replace H := Option.bind_eq_some_iff.mp H
   obtain ⟨t279, A90, H⟩ := H
   replace H : (if t279 = true then (if a0_2.toList = ([] : List UInt8) then (if a0_3.toList = ([] : List UInt8) then (if a0_8 = true then (spec_CookieText.j0 k true a0_0 a0_1 a0_2 a0_3 a0_4 a0_5 a0_6 a0_7 a0_8) else (if a0_4 < 0 then (spec_CookieText.j0 k true a0_0 a0_1 a0_2 a0_3 a0_4 a0_5 a0_6 a0_7 a0_8) else (if a0_5 < 0 then (spec_CookieText.j0 k true a0_0 a0_1 a0_2 a0_3 a0_4 a0_5 a0_6 a0_7 a0_8) else (spec_CookieText.j0 k (decide (a0_5 > 4)) a0_0 a0_1 a0_2 a0_3 a0_4 a0_5 a0_6 a0_7 a0_8)))) else (if t277 = 1 then (if t276.toList = a0_3.toList then ((spec_quoted.f k t276 (⟨#[47]⟩ : ByteArray) (⟨#[]⟩ : ByteArray)).bind fun t280 => (if t280.toList = t276.toList then (if a0_8 = true then (spec_CookieText.j0 k true a0_0 a0_1 a0_2 a0_3 a0_4 a0_5 a0_6 a0_7 a0_8) else (if a0_4 < 0 then (spec_CookieText.j0 k true a0_0 a0_1 a0_2 a0_3 a0_4 a0_5 a0_6 a0_7 a0_8) else (if a0_5 < 0 then (spec_CookieText.j0 k true a0_0 a0_1 a0_2 a0_3 a0_4 a0_5 a0_6 a0_7 a0_8) else (spec_CookieText.j0 k (decide (a0_5 > 4)) a0_0 a0_1 a0_2 a0_3 a0_4 a0_5 a0_6 a0_7 a0_8)))) else (spec_CookieText.j0 k true a0_0 a0_1 a0_2 a0_3 a0_4 a0_5 a0_6 a0_7 a0_8))) else (spec_CookieText.j0 k true a0_0 a0_1 a0_2 a0_3 a0_4 a0_5 a0_6 a0_7 a0_8)) else (spec_CookieText.j0 k true a0_0 a0_1 a0_2 a0_3 a0_4 a0_5 a0_6 a0_7 a0_8))) else ((spec_token.f k a0_2).bind fun t281 => (if t281 = true then (if a0_3.toList = ([] : List UInt8) then (if a0_8 = true then (spec_CookieText.j0 k true a0_0 a0_1 a0_2 a0_3 a0_4 a0_5 a0_6 a0_7 a0_8) else (if a0_4 < 0 then (spec_CookieText.j0 k true a0_0 a0_1 a0_2 a0_3 a0_4 a0_5 a0_6 a0_7 a0_8) else (if a0_5 < 0 then (spec_CookieText.j0 k true a0_0 a0_1 a0_2 a0_3 a0_4 a0_5 a0_6 a0_7 a0_8) else (spec_CookieText.j0 k (decide (a0_5 > 4)) a0_0 a0_1 a0_2 a0_3 a0_4 a0_5 a0_6 a0_7 a0_8)))) else (if t277 = 1 then (if t276.toList = a0_3.toList then ((spec_quoted.f k t276 (⟨#[47]⟩ : ByteArray) (⟨#[]⟩ : ByteArray)).bind fun t282 => (if t282.toList = t276.toList then (if a0_8 = true then (spec_CookieText.j0 k true a0_0 a0_1 a0_2 a0_3 a0_4 a0_5 a0_6 a0_7 a0_8) else (if a0_4 < 0 then (spec_CookieText.j0 k true a0_0 a0_1 a0_2 a0_3 a0_4 a0_5 a0_6 a0_7 a0_8) else (if a0_5 < 0 then (spec_CookieText.j0 k true a0_0 a0_1 a0_2 a0_3 a0_4 a0_5 a0_6 a0_7 a0_8) else (spec_CookieText.j0 k (decide (a0_5 > 4)) a0_0 a0_1 a0_2 a0_3 a0_4 a0_5 a0_6 a0_7 a0_8)))) else (spec_CookieText.j0 k true a0_0 a0_1 a0_2 a0_3 a0_4 a0_5 a0_6 a0_7 a0_8))) else (spec_CookieText.j0 k true a0_0 a0_1 a0_2 a0_3 a0_4 a0_5 a0_6 a0_7 a0_8)) else (spec_CookieText.j0 k true a0_0 a0_1 a0_2 a0_3 a0_4 a0_5 a0_6 a0_7 a0_8))) else (spec_CookieText.j0 k true a0_0 a0_1 a0_2 a0_3 a0_4 a0_5 a0_6 a0_7 a0_8)))) else (spec_CookieText.j0 k true a0_0 a0_1 a0_2 a0_3 a0_4 a0_5 a0_6 a0_7 a0_8)) = some (r1, r2) := H
   have A9 := Aside0.mk A90
   clear A90
   by_cases c10 : t279 = true
   ·
    subst c10
    have H1 : (if a0_2.toList = ([] : List UInt8) then (if a0_3.toList = ([] : List UInt8) then (if a0_8 = true then (spec_CookieText.j0 k true a0_0 a0_1 a0_2 a0_3 a0_4 a0_5 a0_6 a0_7 a0_8) else (if a0_4 < 0 then (spec_CookieText.j0 k true a0_0 a0_1 a0_2 a0_3 a0_4 a0_5 a0_6 a0_7 a0_8) else (if a0_5 < 0 then (spec_CookieText.j0 k true a0_0 a0_1 a0_2 a0_3 a0_4 a0_5 a0_6 a0_7 a0_8) else (spec_CookieText.j0 k (decide (a0_5 > 4)) a0_0 a0_1 a0_2 a0_3 a0_4 a0_5 a0_6 a0_7 a0_8)))) else (if t277 = 1 then (if t276.toList = a0_3.toList then ((spec_quoted.f k t276 (⟨#[47]⟩ : ByteArray) (⟨#[]⟩ : ByteArray)).bind fun t280 => (if t280.toList = t276.toList then (if a0_8 = true then (spec_CookieText.j0 k true a0_0 a0_1 a0_2 a0_3 a0_4 a0_5 a0_6 a0_7 a0_8) else (if a0_4 < 0 then (spec_CookieText.j0 k true a0_0 a0_1 a0_2 a0_3 a0_4 a0_5 a0_6 a0_7 a0_8) else (if a0_5 < 0 then (spec_CookieText.j0 k true a0_0 a0_1 a0_2 a0_3 a0_4 a0_5 a0_6 a0_7 a0_8) else (spec_CookieText.j0 k (decide (a0_5 > 4)) a0_0 a0_1 a0_2 a0_3 a0_4 a0_5 a0_6 a0_7 a0_8)))) else (spec_CookieText.j0 k true a0_0 a0_1 a0_2 a0_3 a0_4 a0_5 a0_6 a0_7 a0_8))) else (spec_CookieText.j0 k true a0_0 a0_1 a0_2 a0_3 a0_4 a0_5 a0_6 a0_7 a0_8)) else (spec_CookieText.j0 k true a0_0 a0_1 a0_2 a0_3 a0_4 a0_5 a0_6 a0_7 a0_8))) else ((spec_token.f k a0_2).bind fun t281 => (if t281 = true then (if a0_3.toList = ([] : List UInt8) then (if a0_8 = true then (spec_CookieText.j0 k true a0_0 a0_1 a0_2 a0_3 a0_4 a0_5 a0_6 a0_7 a0_8) else (if a0_4 < 0 then (spec_CookieText.j0 k true a0_0 a0_1 a0_2 a0_3 a0_4 a0_5 a0_6 a0_7 a0_8) else (if a0_5 < 0 then (spec_CookieText.j0 k true a0_0 a0_1 a0_2 a0_3 a0_4 a0_5 a0_6 a0_7 a0_8) else (spec_CookieText.j0 k (decide (a0_5 > 4)) a0_0 a0_1 a0_2 a0_3 a0_4 a0_5 a0_6 a0_7 a0_8)))) else (if t277 = 1 then (if t276.toList = a0_3.toList then ((spec_quoted.f k t276 (⟨#[47]⟩ : ByteArray) (⟨#[]⟩ : ByteArray)).bind fun t282 => (if t282.toList = t276.toList then (if a0_8 = true then (spec_CookieText.j0 k true a0_0 a0_1 a0_2 a0_3 a0_4 a0_5 a0_6 a0_7 a0_8) else (if a0_4 < 0 then (spec_CookieText.j0 k true a0_0 a0_1 a0_2 a0_3 a0_4 a0_5 a0_6 a0_7 a0_8) else (if a0_5 < 0 then (spec_CookieText.j0 k true a0_0 a0_1 a0_2 a0_3 a0_4 a0_5 a0_6 a0_7 a0_8) else (spec_CookieText.j0 k (decide (a0_5 > 4)) a0_0 a0_1 a0_2 a0_3 a0_4 a0_5 a0_6 a0_7 a0_8)))) else (spec_CookieText.j0 k true a0_0 a0_1 a0_2 a0_3 a0_4 a0_5 a0_6 a0_7 a0_8))) else (spec_CookieText.j0 k true a0_0 a0_1 a0_2 a0_3 a0_4 a0_5 a0_6 a0_7 a0_8)) else (spec_CookieText.j0 k true a0_0 a0_1 a0_2 a0_3 a0_4 a0_5 a0_6 a0_7 a0_8))) else (spec_CookieText.j0 k true a0_0 a0_1 a0_2 a0_3 a0_4 a0_5 a0_6 a0_7 a0_8)))) = some (r1, r2) := by rw [if_pos rfl] at H; exact H
    clear H
    have H := H1
    clear H1
    by_cases c11 : a0_2.toList = ([] : List UInt8)
    ·
     rw [if_pos c11] at H
     have c11b0 : (a0_2.toList == ([] : List UInt8)) = true := beq_iff_eq.mpr c11
     have c11b1 : (a0_2.toList != ([] : List UInt8)) = false := bne_eq_false_iff_eq.mpr c11
     clear c11
     (first | rw [c11b0] | (simp only [i64_w, i32_w]; rw [c11b0]) | (rw [Go.Proofs.YtfbllodbcmcndaaX.isEmpty_eq]; rw [c11b0]) | skip)
     by_cases c12 : a0_3.toList = ([] : List UInt8)
     ·
      rw [if_pos c12] at H
      have c12b0 : (a0_3.toList == ([] : List UInt8)) = true := beq_iff_eq.mpr c12
      have c12b1 : (a0_3.toList != ([] : List UInt8)) = false := bne_eq_false_iff_eq.mpr c12
      clear c12
      by_cases c13 : a0_8 = true
      ·
       subst c13
       have H1 : (spec_CookieText.j0 k true a0_0 a0_1 a0_2 a0_3 a0_4 a0_5 a0_6 a0_7 true) = some (r1, r2) := by rw [if_pos rfl] at H; exact H
       clear H
       have H := H1
       clear H1
       have H' := Aside0.mk H
       clear H
       have hcz14_0 : w6.cell? ⟨gb275, 0, none⟩ = some (.string a0_0) := (blk_cell BK275.out 0).trans rfl
       have hcz14_1 : w6.cell? ⟨gb275, 1, none⟩ = some (.string a0_1) := (blk_cell BK275.out 1).trans rfl
       have hcz14_2 : w6.cell? ⟨gb275, 2, none⟩ = some (.string a0_2) := (blk_cell BK275.out 2).trans rfl
       have hcz14_3 : w6.cell? ⟨gb275, 3, none⟩ = some (.string a0_3) := (blk_cell BK275.out 3).trans rfl
       have hcz14_4 : w6.cell? ⟨gb275, 4, none⟩ = some (.int .i64 a0_4) := (blk_cell BK275.out 4).trans rfl
       have hcz14_5 : w6.cell? ⟨gb275, 5, none⟩ = some (.int .i64 a0_5) := (blk_cell BK275.out 5).trans rfl
       have hcz14_6 : w6.cell? ⟨gb275, 6, none⟩ = some (.bool a0_6) := (blk_cell BK275.out 6).trans rfl
       have hcz14_7 : w6.cell? ⟨gb275, 7, none⟩ = some (.bool a0_7) := (blk_cell BK275.out 7).trans rfl
       have hcz14_8 : w6.cell? ⟨gb275, 8, none⟩ = some (.bool true) := (blk_cell BK275.out 8).trans rfl
       have hfz14_0 := blk_frozen BK275.out 0
       have hfz14_1 := blk_frozen BK275.out 1
       have hfz14_2 := blk_frozen BK275.out 2
       have hfz14_3 := blk_frozen BK275.out 3
       have hfz14_4 := blk_frozen BK275.out 4
       have hfz14_5 := blk_frozen BK275.out 5
       have hfz14_6 := blk_frozen BK275.out 6
       have hfz14_7 := blk_frozen BK275.out 7
       have hfz14_8 := blk_frozen BK275.out 8
       go_wp2_with (first | ((with_reducible refine gate_callee (f := 62) rfl ?_); refine goesL_ (some 15) rfl rfl Try.func62 (by kernel_rfl) rfl #[.string a0_0] rfl (by (try simp only [List.map_toArray, List.map_cons, List.map_nil]); first | done | rfl | (simp only [List.length_drop, List.length_take]; rfl)) ?_; (with_reducible refine (spec_token.calls k a0_0 true _ A7.out).mono ?_); rintro e w' ⟨rfl, ⟨nd, rfl⟩⟩; refine ⟨_, rfl, ?_⟩) | (go_at_call 62; (with_reducible refine (spec_token.calls k a0_1 true _ A9.out).mono ?_); rintro e w' ⟨rfl, ⟨nd, rfl⟩⟩))
       go_meet
       case rel => exact ⟨_, (true), (by first | rfl | (simp; done) | (simp [*]; done) | (simp [Go.Proofs.YtfbllodbcmcndaaX.isEmpty_ne]; done)), H', ⟨by first | omega | exact Nat.le_refl _⟩, ⟨by (with_reducible repeat (first | refine blk_drewN ?_ _ | refine blk_drew ?_ | refine blk_alloc ?_ _)); exact BK275.out⟩, ⟨by repeat (first | (with_reducible first | exact HB.out | apply below_alloc | apply pw_below_drewN | apply below_drew1 | refine below_set ?_ GE275.out) | exact HB.out)⟩⟩
      ·
       replace c13 := Bool.eq_false_iff.mpr c13
       subst c13
       have H1 : (if a0_4 < 0 then (spec_CookieText.j0 k true a0_0 a0_1 a0_2 a0_3 a0_4 a0_5 a0_6 a0_7 false) else (if a0_5 < 0 then (spec_CookieText.j0 k true a0_0 a0_1 a0_2 a0_3 a0_4 a0_5 a0_6 a0_7 false) else (spec_CookieText.j0 k (decide (a0_5 > 4)) a0_0 a0_1 a0_2 a0_3 a0_4 a0_5 a0_6 a0_7 false))) = some (r1, r2) := by rw [if_neg (show ¬ (false = true) by decide)] at H; exact H
       clear H
       have H := H1
       clear H1
       by_cases c15 : a0_4 < 0
       ·
        rw [if_pos c15] at H
        have c15b0 : decide (a0_4 < 0) = true := decide_eq_true c15
        clear c15
        have H' := Aside0.mk H
        clear H
        have hcz16_0 : w6.cell? ⟨gb275, 0, none⟩ = some (.string a0_0) := (blk_cell BK275.out 0).trans rfl
        have hcz16_1 : w6.cell? ⟨gb275, 1, none⟩ = some (.string a0_1) := (blk_cell BK275.out 1).trans rfl
        have hcz16_2 : w6.cell? ⟨gb275, 2, none⟩ = some (.string a0_2) := (blk_cell BK275.out 2).trans rfl
        have hcz16_3 : w6.cell? ⟨gb275, 3, none⟩ = some (.string a0_3) := (blk_cell BK275.out 3).trans rfl
        have hcz16_4 : w6.cell? ⟨gb275, 4, none⟩ = some (.int .i64 a0_4) := (blk_cell BK275.out 4).trans rfl
        have hcz16_5 : w6.cell? ⟨gb275, 5, none⟩ = some (.int .i64 a0_5) := (blk_cell BK275.out 5).trans rfl
        have hcz16_6 : w6.cell? ⟨gb275, 6, none⟩ = some (.bool a0_6) := (blk_cell BK275.out 6).trans rfl
        have hcz16_7 : w6.cell? ⟨gb275, 7, none⟩ = some (.bool a0_7) := (blk_cell BK275.out 7).trans rfl
        have hcz16_8 : w6.cell? ⟨gb275, 8, none⟩ = some (.bool false) := (blk_cell BK275.out 8).trans rfl
        have hfz16_0 := blk_frozen BK275.out 0
        have hfz16_1 := blk_frozen BK275.out 1
        have hfz16_2 := blk_frozen BK275.out 2
        have hfz16_3 := blk_frozen BK275.out 3
        have hfz16_4 := blk_frozen BK275.out 4
        have hfz16_5 := blk_frozen BK275.out 5
        have hfz16_6 := blk_frozen BK275.out 6
        have hfz16_7 := blk_frozen BK275.out 7
        have hfz16_8 := blk_frozen BK275.out 8
        go_wp2_with (first | ((with_reducible refine gate_callee (f := 62) rfl ?_); refine goesL_ (some 15) rfl rfl Try.func62 (by kernel_rfl) rfl #[.string a0_0] rfl (by (try simp only [List.map_toArray, List.map_cons, List.map_nil]); first | done | rfl | (simp only [List.length_drop, List.length_take]; rfl)) ?_; (with_reducible refine (spec_token.calls k a0_0 true _ A7.out).mono ?_); rintro e w' ⟨rfl, ⟨nd, rfl⟩⟩; refine ⟨_, rfl, ?_⟩) | (go_at_call 62; (with_reducible refine (spec_token.calls k a0_1 true _ A9.out).mono ?_); rintro e w' ⟨rfl, ⟨nd, rfl⟩⟩))
        go_meet
        case rel => exact ⟨_, (true), (by first | rfl | (simp; done) | (simp [*]; done) | (simp [Go.Proofs.YtfbllodbcmcndaaX.isEmpty_ne]; done)), H', ⟨by first | omega | exact Nat.le_refl _⟩, ⟨by (with_reducible repeat (first | refine blk_drewN ?_ _ | refine blk_drew ?_ | refine blk_alloc ?_ _)); exact BK275.out⟩, ⟨by repeat (first | (with_reducible first | exact HB.out | apply below_alloc | apply pw_below_drewN | apply below_drew1 | refine below_set ?_ GE275.out) | exact HB.out)⟩⟩
       ·
        rw [if_neg c15] at H
        have c15b0 : decide (a0_4 < 0) = false := decide_eq_false c15
        clear c15
        by_cases c17 : a0_5 < 0
        ·
         rw [if_pos c17] at H
         have c17b0 : decide (a0_5 < 0) = true := decide_eq_true c17
         clear c17
         have H' := Aside0.mk H
         clear H
         have hcz18_0 : w6.cell? ⟨gb275, 0, none⟩ = some (.string a0_0) := (blk_cell BK275.out 0).trans rfl
         have hcz18_1 : w6.cell? ⟨gb275, 1, none⟩ = some (.string a0_1) := (blk_cell BK275.out 1).trans rfl
         have hcz18_2 : w6.cell? ⟨gb275, 2, none⟩ = some (.string a0_2) := (blk_cell BK275.out 2).trans rfl
         have hcz18_3 : w6.cell? ⟨gb275, 3, none⟩ = some (.string a0_3) := (blk_cell BK275.out 3).trans rfl
         have hcz18_4 : w6.cell? ⟨gb275, 4, none⟩ = some (.int .i64 a0_4) := (blk_cell BK275.out 4).trans rfl
         have hcz18_5 : w6.cell? ⟨gb275, 5, none⟩ = some (.int .i64 a0_5) := (blk_cell BK275.out 5).trans rfl
         have hcz18_6 : w6.cell? ⟨gb275, 6, none⟩ = some (.bool a0_6) := (blk_cell BK275.out 6).trans rfl
         have hcz18_7 : w6.cell? ⟨gb275, 7, none⟩ = some (.bool a0_7) := (blk_cell BK275.out 7).trans rfl
         have hcz18_8 : w6.cell? ⟨gb275, 8, none⟩ = some (.bool false) := (blk_cell BK275.out 8).trans rfl
         have hfz18_0 := blk_frozen BK275.out 0
         have hfz18_1 := blk_frozen BK275.out 1
         have hfz18_2 := blk_frozen BK275.out 2
         have hfz18_3 := blk_frozen BK275.out 3
         have hfz18_4 := blk_frozen BK275.out 4
         have hfz18_5 := blk_frozen BK275.out 5
         have hfz18_6 := blk_frozen BK275.out 6
         have hfz18_7 := blk_frozen BK275.out 7
         have hfz18_8 := blk_frozen BK275.out 8
         go_wp2_with (first | ((with_reducible refine gate_callee (f := 62) rfl ?_); refine goesL_ (some 15) rfl rfl Try.func62 (by kernel_rfl) rfl #[.string a0_0] rfl (by (try simp only [List.map_toArray, List.map_cons, List.map_nil]); first | done | rfl | (simp only [List.length_drop, List.length_take]; rfl)) ?_; (with_reducible refine (spec_token.calls k a0_0 true _ A7.out).mono ?_); rintro e w' ⟨rfl, ⟨nd, rfl⟩⟩; refine ⟨_, rfl, ?_⟩) | (go_at_call 62; (with_reducible refine (spec_token.calls k a0_1 true _ A9.out).mono ?_); rintro e w' ⟨rfl, ⟨nd, rfl⟩⟩))
         go_meet
         case rel => exact ⟨_, (true), (by first | rfl | (simp; done) | (simp [*]; done) | (simp [Go.Proofs.YtfbllodbcmcndaaX.isEmpty_ne]; done)), H', ⟨by first | omega | exact Nat.le_refl _⟩, ⟨by (with_reducible repeat (first | refine blk_drewN ?_ _ | refine blk_drew ?_ | refine blk_alloc ?_ _)); exact BK275.out⟩, ⟨by repeat (first | (with_reducible first | exact HB.out | apply below_alloc | apply pw_below_drewN | apply below_drew1 | refine below_set ?_ GE275.out) | exact HB.out)⟩⟩
        ·
         rw [if_neg c17] at H
         have c17b0 : decide (a0_5 < 0) = false := decide_eq_false c17
         clear c17
         have H' := Aside0.mk H
         clear H
         have hcz19_0 : w6.cell? ⟨gb275, 0, none⟩ = some (.string a0_0) := (blk_cell BK275.out 0).trans rfl
         have hcz19_1 : w6.cell? ⟨gb275, 1, none⟩ = some (.string a0_1) := (blk_cell BK275.out 1).trans rfl
         have hcz19_2 : w6.cell? ⟨gb275, 2, none⟩ = some (.string a0_2) := (blk_cell BK275.out 2).trans rfl
         have hcz19_3 : w6.cell? ⟨gb275, 3, none⟩ = some (.string a0_3) := (blk_cell BK275.out 3).trans rfl
         have hcz19_4 : w6.cell? ⟨gb275, 4, none⟩ = some (.int .i64 a0_4) := (blk_cell BK275.out 4).trans rfl
         have hcz19_5 : w6.cell? ⟨gb275, 5, none⟩ = some (.int .i64 a0_5) := (blk_cell BK275.out 5).trans rfl
         have hcz19_6 : w6.cell? ⟨gb275, 6, none⟩ = some (.bool a0_6) := (blk_cell BK275.out 6).trans rfl
         have hcz19_7 : w6.cell? ⟨gb275, 7, none⟩ = some (.bool a0_7) := (blk_cell BK275.out 7).trans rfl
         have hcz19_8 : w6.cell? ⟨gb275, 8, none⟩ = some (.bool false) := (blk_cell BK275.out 8).trans rfl
         have hfz19_0 := blk_frozen BK275.out 0
         have hfz19_1 := blk_frozen BK275.out 1
         have hfz19_2 := blk_frozen BK275.out 2
         have hfz19_3 := blk_frozen BK275.out 3
         have hfz19_4 := blk_frozen BK275.out 4
         have hfz19_5 := blk_frozen BK275.out 5
         have hfz19_6 := blk_frozen BK275.out 6
         have hfz19_7 := blk_frozen BK275.out 7
         have hfz19_8 := blk_frozen BK275.out 8
         go_wp2_with (first | ((with_reducible refine gate_callee (f := 62) rfl ?_); refine goesL_ (some 15) rfl rfl Try.func62 (by kernel_rfl) rfl #[.string a0_0] rfl (by (try simp only [List.map_toArray, List.map_cons, List.map_nil]); first | done | rfl | (simp only [List.length_drop, List.length_take]; rfl)) ?_; (with_reducible refine (spec_token.calls k a0_0 true _ A7.out).mono ?_); rintro e w' ⟨rfl, ⟨nd, rfl⟩⟩; refine ⟨_, rfl, ?_⟩) | (go_at_call 62; (with_reducible refine (spec_token.calls k a0_1 true _ A9.out).mono ?_); rintro e w' ⟨rfl, ⟨nd, rfl⟩⟩))
         go_meet
         case rel => exact ⟨_, (decide (a0_5 > 4)), (by first | rfl | (simp; done) | (simp [*]; done) | (simp [Go.Proofs.YtfbllodbcmcndaaX.isEmpty_ne]; done)), H', ⟨by first | omega | exact Nat.le_refl _⟩, ⟨by (with_reducible repeat (first | refine blk_drewN ?_ _ | refine blk_drew ?_ | refine blk_alloc ?_ _)); exact BK275.out⟩, ⟨by repeat (first | (with_reducible first | exact HB.out | apply below_alloc | apply pw_below_drewN | apply below_drew1 | refine below_set ?_ GE275.out) | exact HB.out)⟩⟩
     ·
      rw [if_neg c12] at H
      have c12b0 : (a0_3.toList == ([] : List UInt8)) = false := beq_eq_false_iff_ne.mpr c12
      have c12b1 : (a0_3.toList != ([] : List UInt8)) = true := bne_iff_ne.mpr c12
      by_cases c20 : t277 = 1
      ·
       rw [if_pos c20] at H
       have c20b0 : (t277 == 1) = true := beq_iff_eq.mpr c20
       have c20b1 : (t277 != 1) = false := bne_eq_false_iff_eq.mpr c20
       clear c20
       by_cases c21 : t276.toList = a0_3.toList
       ·
        rw [if_pos c21] at H
        have c21b0 : (t276.toList == a0_3.toList) = true := beq_iff_eq.mpr c21
        have c21b1 : (t276.toList != a0_3.toList) = false := bne_eq_false_iff_eq.mpr c21
        clear c21
        replace H := Option.bind_eq_some_iff.mp H
        obtain ⟨t280, A220, H⟩ := H
        replace H : (if t280.toList = t276.toList then (if a0_8 = true then (spec_CookieText.j0 k true a0_0 a0_1 a0_2 a0_3 a0_4 a0_5 a0_6 a0_7 a0_8) else (if a0_4 < 0 then (spec_CookieText.j0 k true a0_0 a0_1 a0_2 a0_3 a0_4 a0_5 a0_6 a0_7 a0_8) else (if a0_5 < 0 then (spec_CookieText.j0 k true a0_0 a0_1 a0_2 a0_3 a0_4 a0_5 a0_6 a0_7 a0_8) else (spec_CookieText.j0 k (decide (a0_5 > 4)) a0_0 a0_1 a0_2 a0_3 a0_4 a0_5 a0_6 a0_7 a0_8)))) else (spec_CookieText.j0 k true a0_0 a0_1 a0_2 a0_3 a0_4 a0_5 a0_6 a0_7 a0_8)) = some (r1, r2) := H
        have A22 := Aside0.mk A220
        clear A220
        by_cases c23 : t280.toList = t276.toList
        ·
         rw [if_pos c23] at H
         have c23b0 : (t280.toList == t276.toList) = true := beq_iff_eq.mpr c23
         have c23b1 : (t280.toList != t276.toList) = false := bne_eq_false_iff_eq.mpr c23
         clear c23
         by_cases c24 : a0_8 = true
         ·
          subst c24
          have H1 : (spec_CookieText.j0 k true a0_0 a0_1 a0_2 a0_3 a0_4 a0_5 a0_6 a0_7 true) = some (r1, r2) := by rw [if_pos rfl] at H; exact H
          clear H
          have H := H1
          clear H1
          have H' := Aside0.mk H
          clear H
          have hcz25_0 : w6.cell? ⟨gb275, 0, none⟩ = some (.string a0_0) := (blk_cell BK275.out 0).trans rfl
          have hcz25_1 : w6.cell? ⟨gb275, 1, none⟩ = some (.string a0_1) := (blk_cell BK275.out 1).trans rfl
          have hcz25_2 : w6.cell? ⟨gb275, 2, none⟩ = some (.string a0_2) := (blk_cell BK275.out 2).trans rfl
          have hcz25_3 : w6.cell? ⟨gb275, 3, none⟩ = some (.string a0_3) := (blk_cell BK275.out 3).trans rfl
          have hcz25_4 : w6.cell? ⟨gb275, 4, none⟩ = some (.int .i64 a0_4) := (blk_cell BK275.out 4).trans rfl
          have hcz25_5 : w6.cell? ⟨gb275, 5, none⟩ = some (.int .i64 a0_5) := (blk_cell BK275.out 5).trans rfl
          have hcz25_6 : w6.cell? ⟨gb275, 6, none⟩ = some (.bool a0_6) := (blk_cell BK275.out 6).trans rfl
          have hcz25_7 : w6.cell? ⟨gb275, 7, none⟩ = some (.bool a0_7) := (blk_cell BK275.out 7).trans rfl
          have hcz25_8 : w6.cell? ⟨gb275, 8, none⟩ = some (.bool true) := (blk_cell BK275.out 8).trans rfl
          have hfz25_0 := blk_frozen BK275.out 0
          have hfz25_1 := blk_frozen BK275.out 1
          have hfz25_2 := blk_frozen BK275.out 2
          have hfz25_3 := blk_frozen BK275.out 3
          have hfz25_4 := blk_frozen BK275.out 4
          have hfz25_5 := blk_frozen BK275.out 5
          have hfz25_6 := blk_frozen BK275.out 6
          have hfz25_7 := blk_frozen BK275.out 7
          have hfz25_8 := blk_frozen BK275.out 8
          go_wp2_with (first | ((with_reducible refine gate_callee (f := 62) rfl ?_); refine goesL_ (some 15) rfl rfl Try.func62 (by kernel_rfl) rfl #[.string a0_0] rfl (by (try simp only [List.map_toArray, List.map_cons, List.map_nil]); first | done | rfl | (simp only [List.length_drop, List.length_take]; rfl)) ?_; (with_reducible refine (spec_token.calls k a0_0 true _ A7.out).mono ?_); rintro e w' ⟨rfl, ⟨nd, rfl⟩⟩; refine ⟨_, rfl, ?_⟩) | (go_at_call 62; (with_reducible refine (spec_token.calls k a0_1 true _ A9.out).mono ?_); rintro e w' ⟨rfl, ⟨nd, rfl⟩⟩) | (go_at_call 63; (with_reducible refine (spec_quoted.calls k t276 (⟨#[47]⟩ : ByteArray) (⟨#[]⟩ : ByteArray) t280 _ A22.out).mono ?_); rintro e w' ⟨rfl, ⟨nd, rfl⟩⟩))
          go_meet
          case rel => exact ⟨_, (true), (by first | rfl | (simp; done) | (simp [*]; done) | (simp [Go.Proofs.YtfbllodbcmcndaaX.isEmpty_ne]; done)), H', ⟨by first | omega | exact Nat.le_refl _⟩, ⟨by (with_reducible repeat (first | refine blk_drewN ?_ _ | refine blk_drew ?_ | refine blk_alloc ?_ _)); exact BK275.out⟩, ⟨by repeat (first | (with_reducible first | exact HB.out | apply below_alloc | apply pw_below_drewN | apply below_drew1 | refine below_set ?_ GE275.out) | exact HB.out)⟩⟩
         ·
          replace c24 := Bool.eq_false_iff.mpr c24
          subst c24
          have H1 : (if a0_4 < 0 then (spec_CookieText.j0 k true a0_0 a0_1 a0_2 a0_3 a0_4 a0_5 a0_6 a0_7 false) else (if a0_5 < 0 then (spec_CookieText.j0 k true a0_0 a0_1 a0_2 a0_3 a0_4 a0_5 a0_6 a0_7 false) else (spec_CookieText.j0 k (decide (a0_5 > 4)) a0_0 a0_1 a0_2 a0_3 a0_4 a0_5 a0_6 a0_7 false))) = some (r1, r2) := by rw [if_neg (show ¬ (false = true) by decide)] at H; exact H
          clear H
          have H := H1
          clear H1
          by_cases c26 : a0_4 < 0
          ·
           rw [if_pos c26] at H
           have c26b0 : decide (a0_4 < 0) = true := decide_eq_true c26
           clear c26
           have H' := Aside0.mk H
           clear H
           have hcz27_0 : w6.cell? ⟨gb275, 0, none⟩ = some (.string a0_0) := (blk_cell BK275.out 0).trans rfl
           have hcz27_1 : w6.cell? ⟨gb275, 1, none⟩ = some (.string a0_1) := (blk_cell BK275.out 1).trans rfl
           have hcz27_2 : w6.cell? ⟨gb275, 2, none⟩ = some (.string a0_2) := (blk_cell BK275.out 2).trans rfl
           have hcz27_3 : w6.cell? ⟨gb275, 3, none⟩ = some (.string a0_3) := (blk_cell BK275.out 3).trans rfl
           have hcz27_4 : w6.cell? ⟨gb275, 4, none⟩ = some (.int .i64 a0_4) := (blk_cell BK275.out 4).trans rfl
           have hcz27_5 : w6.cell? ⟨gb275, 5, none⟩ = some (.int .i64 a0_5) := (blk_cell BK275.out 5).trans rfl
           have hcz27_6 : w6.cell? ⟨gb275, 6, none⟩ = some (.bool a0_6) := (blk_cell BK275.out 6).trans rfl
           have hcz27_7 : w6.cell? ⟨gb275, 7, none⟩ = some (.bool a0_7) := (blk_cell BK275.out 7).trans rfl
           have hcz27_8 : w6.cell? ⟨gb275, 8, none⟩ = some (.bool false) := (blk_cell BK275.out 8).trans rfl
           have hfz27_0 := blk_frozen BK275.out 0
           have hfz27_1 := blk_frozen BK275.out 1
           have hfz27_2 := blk_frozen BK275.out 2
           have hfz27_3 := blk_frozen BK275.out 3
           have hfz27_4 := blk_frozen BK275.out 4
           have hfz27_5 := blk_frozen BK275.out 5
           have hfz27_6 := blk_frozen BK275.out 6
           have hfz27_7 := blk_frozen BK275.out 7
           have hfz27_8 := blk_frozen BK275.out 8
           go_wp2_with (first | ((with_reducible refine gate_callee (f := 62) rfl ?_); refine goesL_ (some 15) rfl rfl Try.func62 (by kernel_rfl) rfl #[.string a0_0] rfl (by (try simp only [List.map_toArray, List.map_cons, List.map_nil]); first | done | rfl | (simp only [List.length_drop, List.length_take]; rfl)) ?_; (with_reducible refine (spec_token.calls k a0_0 true _ A7.out).mono ?_); rintro e w' ⟨rfl, ⟨nd, rfl⟩⟩; refine ⟨_, rfl, ?_⟩) | (go_at_call 62; (with_reducible refine (spec_token.calls k a0_1 true _ A9.out).mono ?_); rintro e w' ⟨rfl, ⟨nd, rfl⟩⟩) | (go_at_call 63; (with_reducible refine (spec_quoted.calls k t276 (⟨#[47]⟩ : ByteArray) (⟨#[]⟩ : ByteArray) t280 _ A22.out).mono ?_); rintro e w' ⟨rfl, ⟨nd, rfl⟩⟩))
           go_meet
           case rel => exact ⟨_, (true), (by first | rfl | (simp; done) | (simp [*]; done) | (simp [Go.Proofs.YtfbllodbcmcndaaX.isEmpty_ne]; done)), H', ⟨by first | omega | exact Nat.le_refl _⟩, ⟨by (with_reducible repeat (first | refine blk_drewN ?_ _ | refine blk_drew ?_ | refine blk_alloc ?_ _)); exact BK275.out⟩, ⟨by repeat (first | (with_reducible first | exact HB.out | apply below_alloc | apply pw_below_drewN | apply below_drew1 | refine below_set ?_ GE275.out) | exact HB.out)⟩⟩
          ·
           rw [if_neg c26] at H
           have c26b0 : decide (a0_4 < 0) = false := decide_eq_false c26
           clear c26
           by_cases c28 : a0_5 < 0
           ·
            rw [if_pos c28] at H
            have c28b0 : decide (a0_5 < 0) = true := decide_eq_true c28
            clear c28
            have H' := Aside0.mk H
            clear H
            have hcz29_0 : w6.cell? ⟨gb275, 0, none⟩ = some (.string a0_0) := (blk_cell BK275.out 0).trans rfl
            have hcz29_1 : w6.cell? ⟨gb275, 1, none⟩ = some (.string a0_1) := (blk_cell BK275.out 1).trans rfl
            have hcz29_2 : w6.cell? ⟨gb275, 2, none⟩ = some (.string a0_2) := (blk_cell BK275.out 2).trans rfl
            have hcz29_3 : w6.cell? ⟨gb275, 3, none⟩ = some (.string a0_3) := (blk_cell BK275.out 3).trans rfl
            have hcz29_4 : w6.cell? ⟨gb275, 4, none⟩ = some (.int .i64 a0_4) := (blk_cell BK275.out 4).trans rfl
            have hcz29_5 : w6.cell? ⟨gb275, 5, none⟩ = some (.int .i64 a0_5) := (blk_cell BK275.out 5).trans rfl
            have hcz29_6 : w6.cell? ⟨gb275, 6, none⟩ = some (.bool a0_6) := (blk_cell BK275.out 6).trans rfl
            have hcz29_7 : w6.cell? ⟨gb275, 7, none⟩ = some (.bool a0_7) := (blk_cell BK275.out 7).trans rfl
            have hcz29_8 : w6.cell? ⟨gb275, 8, none⟩ = some (.bool false) := (blk_cell BK275.out 8).trans rfl
            have hfz29_0 := blk_frozen BK275.out 0
            have hfz29_1 := blk_frozen BK275.out 1
            have hfz29_2 := blk_frozen BK275.out 2
            have hfz29_3 := blk_frozen BK275.out 3
            have hfz29_4 := blk_frozen BK275.out 4
            have hfz29_5 := blk_frozen BK275.out 5
            have hfz29_6 := blk_frozen BK275.out 6
            have hfz29_7 := blk_frozen BK275.out 7
            have hfz29_8 := blk_frozen BK275.out 8
            go_wp2_with (first | ((with_reducible refine gate_callee (f := 62) rfl ?_); refine goesL_ (some 15) rfl rfl Try.func62 (by kernel_rfl) rfl #[.string a0_0] rfl (by (try simp only [List.map_toArray, List.map_cons, List.map_nil]); first | done | rfl | (simp only [List.length_drop, List.length_take]; rfl)) ?_; (with_reducible refine (spec_token.calls k a0_0 true _ A7.out).mono ?_); rintro e w' ⟨rfl, ⟨nd, rfl⟩⟩; refine ⟨_, rfl, ?_⟩) | (go_at_call 62; (with_reducible refine (spec_token.calls k a0_1 true _ A9.out).mono ?_); rintro e w' ⟨rfl, ⟨nd, rfl⟩⟩) | (go_at_call 63; (with_reducible refine (spec_quoted.calls k t276 (⟨#[47]⟩ : ByteArray) (⟨#[]⟩ : ByteArray) t280 _ A22.out).mono ?_); rintro e w' ⟨rfl, ⟨nd, rfl⟩⟩))
            go_meet
            case rel => exact ⟨_, (true), (by first | rfl | (simp; done) | (simp [*]; done) | (simp [Go.Proofs.YtfbllodbcmcndaaX.isEmpty_ne]; done)), H', ⟨by first | omega | exact Nat.le_refl _⟩, ⟨by (with_reducible repeat (first | refine blk_drewN ?_ _ | refine blk_drew ?_ | refine blk_alloc ?_ _)); exact BK275.out⟩, ⟨by repeat (first | (with_reducible first | exact HB.out | apply below_alloc | apply pw_below_drewN | apply below_drew1 | refine below_set ?_ GE275.out) | exact HB.out)⟩⟩
           ·
            rw [if_neg c28] at H
            have c28b0 : decide (a0_5 < 0) = false := decide_eq_false c28
            clear c28
            have H' := Aside0.mk H
            clear H
            have hcz30_0 : w6.cell? ⟨gb275, 0, none⟩ = some (.string a0_0) := (blk_cell BK275.out 0).trans rfl
            have hcz30_1 : w6.cell? ⟨gb275, 1, none⟩ = some (.string a0_1) := (blk_cell BK275.out 1).trans rfl
            have hcz30_2 : w6.cell? ⟨gb275, 2, none⟩ = some (.string a0_2) := (blk_cell BK275.out 2).trans rfl
            have hcz30_3 : w6.cell? ⟨gb275, 3, none⟩ = some (.string a0_3) := (blk_cell BK275.out 3).trans rfl
            have hcz30_4 : w6.cell? ⟨gb275, 4, none⟩ = some (.int .i64 a0_4) := (blk_cell BK275.out 4).trans rfl
            have hcz30_5 : w6.cell? ⟨gb275, 5, none⟩ = some (.int .i64 a0_5) := (blk_cell BK275.out 5).trans rfl
            have hcz30_6 : w6.cell? ⟨gb275, 6, none⟩ = some (.bool a0_6) := (blk_cell BK275.out 6).trans rfl
            have hcz30_7 : w6.cell? ⟨gb275, 7, none⟩ = some (.bool a0_7) := (blk_cell BK275.out 7).trans rfl
            have hcz30_8 : w6.cell? ⟨gb275, 8, none⟩ = some (.bool false) := (blk_cell BK275.out 8).trans rfl
            have hfz30_0 := blk_frozen BK275.out 0
            have hfz30_1 := blk_frozen BK275.out 1
            have hfz30_2 := blk_frozen BK275.out 2
            have hfz30_3 := blk_frozen BK275.out 3
            have hfz30_4 := blk_frozen BK275.out 4
            have hfz30_5 := blk_frozen BK275.out 5
            have hfz30_6 := blk_frozen BK275.out 6
            have hfz30_7 := blk_frozen BK275.out 7
            have hfz30_8 := blk_frozen BK275.out 8
            go_wp2_with (first | ((with_reducible refine gate_callee (f := 62) rfl ?_); refine goesL_ (some 15) rfl rfl Try.func62 (by kernel_rfl) rfl #[.string a0_0] rfl (by (try simp only [List.map_toArray, List.map_cons, List.map_nil]); first | done | rfl | (simp only [List.length_drop, List.length_take]; rfl)) ?_; (with_reducible refine (spec_token.calls k a0_0 true _ A7.out).mono ?_); rintro e w' ⟨rfl, ⟨nd, rfl⟩⟩; refine ⟨_, rfl, ?_⟩) | (go_at_call 62; (with_reducible refine (spec_token.calls k a0_1 true _ A9.out).mono ?_); rintro e w' ⟨rfl, ⟨nd, rfl⟩⟩) | (go_at_call 63; (with_reducible refine (spec_quoted.calls k t276 (⟨#[47]⟩ : ByteArray) (⟨#[]⟩ : ByteArray) t280 _ A22.out).mono ?_); rintro e w' ⟨rfl, ⟨nd, rfl⟩⟩))
            go_meet
            case rel => exact ⟨_, (decide (a0_5 > 4)), (by first | rfl | (simp; done) | (simp [*]; done) | (simp [Go.Proofs.YtfbllodbcmcndaaX.isEmpty_ne]; done)), H', ⟨by first | omega | exact Nat.le_refl _⟩, ⟨by (with_reducible repeat (first | refine blk_drewN ?_ _ | refine blk_drew ?_ | refine blk_alloc ?_ _)); exact BK275.out⟩, ⟨by repeat (first | (with_reducible first | exact HB.out | apply below_alloc | apply pw_below_drewN | apply below_drew1 | refine below_set ?_ GE275.out) | exact HB.out)⟩⟩
        ·
         rw [if_neg c23] at H
         have c23b0 : (t280.toList == t276.toList) = false := beq_eq_false_iff_ne.mpr c23
         have c23b1 : (t280.toList != t276.toList) = true := bne_iff_ne.mpr c23
         have H' := Aside0.mk H
         clear H
         have hcz31_0 : w6.cell? ⟨gb275, 0, none⟩ = some (.string a0_0) := (blk_cell BK275.out 0).trans rfl
         have hcz31_1 : w6.cell? ⟨gb275, 1, none⟩ = some (.string a0_1) := (blk_cell BK275.out 1).trans rfl
         have hcz31_2 : w6.cell? ⟨gb275, 2, none⟩ = some (.string a0_2) := (blk_cell BK275.out 2).trans rfl
         have hcz31_3 : w6.cell? ⟨gb275, 3, none⟩ = some (.string a0_3) := (blk_cell BK275.out 3).trans rfl
         have hcz31_4 : w6.cell? ⟨gb275, 4, none⟩ = some (.int .i64 a0_4) := (blk_cell BK275.out 4).trans rfl
         have hcz31_5 : w6.cell? ⟨gb275, 5, none⟩ = some (.int .i64 a0_5) := (blk_cell BK275.out 5).trans rfl
         have hcz31_6 : w6.cell? ⟨gb275, 6, none⟩ = some (.bool a0_6) := (blk_cell BK275.out 6).trans rfl
         have hcz31_7 : w6.cell? ⟨gb275, 7, none⟩ = some (.bool a0_7) := (blk_cell BK275.out 7).trans rfl
         have hcz31_8 : w6.cell? ⟨gb275, 8, none⟩ = some (.bool a0_8) := (blk_cell BK275.out 8).trans rfl
         have hfz31_0 := blk_frozen BK275.out 0
         have hfz31_1 := blk_frozen BK275.out 1
         have hfz31_2 := blk_frozen BK275.out 2
         have hfz31_3 := blk_frozen BK275.out 3
         have hfz31_4 := blk_frozen BK275.out 4
         have hfz31_5 := blk_frozen BK275.out 5
         have hfz31_6 := blk_frozen BK275.out 6
         have hfz31_7 := blk_frozen BK275.out 7
         have hfz31_8 := blk_frozen BK275.out 8
         go_wp2_with (first | ((with_reducible refine gate_callee (f := 62) rfl ?_); refine goesL_ (some 15) rfl rfl Try.func62 (by kernel_rfl) rfl #[.string a0_0] rfl (by (try simp only [List.map_toArray, List.map_cons, List.map_nil]); first | done | rfl | (simp only [List.length_drop, List.length_take]; rfl)) ?_; (with_reducible refine (spec_token.calls k a0_0 true _ A7.out).mono ?_); rintro e w' ⟨rfl, ⟨nd, rfl⟩⟩; refine ⟨_, rfl, ?_⟩) | (go_at_call 62; (with_reducible refine (spec_token.calls k a0_1 true _ A9.out).mono ?_); rintro e w' ⟨rfl, ⟨nd, rfl⟩⟩) | (go_at_call 63; (with_reducible refine (spec_quoted.calls k t276 (⟨#[47]⟩ : ByteArray) (⟨#[]⟩ : ByteArray) t280 _ A22.out).mono ?_); rintro e w' ⟨rfl, ⟨nd, rfl⟩⟩))
         go_meet
         case rel => exact ⟨_, (true), (by first | rfl | (simp; done) | (simp [*]; done) | (simp [Go.Proofs.YtfbllodbcmcndaaX.isEmpty_ne]; done)), H', ⟨by first | omega | exact Nat.le_refl _⟩, ⟨by (with_reducible repeat (first | refine blk_drewN ?_ _ | refine blk_drew ?_ | refine blk_alloc ?_ _)); exact BK275.out⟩, ⟨by repeat (first | (with_reducible first | exact HB.out | apply below_alloc | apply pw_below_drewN | apply below_drew1 | refine below_set ?_ GE275.out) | exact HB.out)⟩⟩
       ·
        rw [if_neg c21] at H
        have c21b0 : (t276.toList == a0_3.toList) = false := beq_eq_false_iff_ne.mpr c21
        have c21b1 : (t276.toList != a0_3.toList) = true := bne_iff_ne.mpr c21
        have H' := Aside0.mk H
        clear H
        have hcz32_0 : w6.cell? ⟨gb275, 0, none⟩ = some (.string a0_0) := (blk_cell BK275.out 0).trans rfl
        have hcz32_1 : w6.cell? ⟨gb275, 1, none⟩ = some (.string a0_1) := (blk_cell BK275.out 1).trans rfl
        have hcz32_2 : w6.cell? ⟨gb275, 2, none⟩ = some (.string a0_2) := (blk_cell BK275.out 2).trans rfl
        have hcz32_3 : w6.cell? ⟨gb275, 3, none⟩ = some (.string a0_3) := (blk_cell BK275.out 3).trans rfl
        have hcz32_4 : w6.cell? ⟨gb275, 4, none⟩ = some (.int .i64 a0_4) := (blk_cell BK275.out 4).trans rfl
        have hcz32_5 : w6.cell? ⟨gb275, 5, none⟩ = some (.int .i64 a0_5) := (blk_cell BK275.out 5).trans rfl
        have hcz32_6 : w6.cell? ⟨gb275, 6, none⟩ = some (.bool a0_6) := (blk_cell BK275.out 6).trans rfl
        have hcz32_7 : w6.cell? ⟨gb275, 7, none⟩ = some (.bool a0_7) := (blk_cell BK275.out 7).trans rfl
        have hcz32_8 : w6.cell? ⟨gb275, 8, none⟩ = some (.bool a0_8) := (blk_cell BK275.out 8).trans rfl
        have hfz32_0 := blk_frozen BK275.out 0
        have hfz32_1 := blk_frozen BK275.out 1
        have hfz32_2 := blk_frozen BK275.out 2
        have hfz32_3 := blk_frozen BK275.out 3
        have hfz32_4 := blk_frozen BK275.out 4
        have hfz32_5 := blk_frozen BK275.out 5
        have hfz32_6 := blk_frozen BK275.out 6
        have hfz32_7 := blk_frozen BK275.out 7
        have hfz32_8 := blk_frozen BK275.out 8
        go_wp2_with (first | ((with_reducible refine gate_callee (f := 62) rfl ?_); refine goesL_ (some 15) rfl rfl Try.func62 (by kernel_rfl) rfl #[.string a0_0] rfl (by (try simp only [List.map_toArray, List.map_cons, List.map_nil]); first | done | rfl | (simp only [List.length_drop, List.length_take]; rfl)) ?_; (with_reducible refine (spec_token.calls k a0_0 true _ A7.out).mono ?_); rintro e w' ⟨rfl, ⟨nd, rfl⟩⟩; refine ⟨_, rfl, ?_⟩) | (go_at_call 62; (with_reducible refine (spec_token.calls k a0_1 true _ A9.out).mono ?_); rintro e w' ⟨rfl, ⟨nd, rfl⟩⟩))
        go_meet
        case rel => exact ⟨_, (true), (by first | rfl | (simp; done) | (simp [*]; done) | (simp [Go.Proofs.YtfbllodbcmcndaaX.isEmpty_ne]; done)), H', ⟨by first | omega | exact Nat.le_refl _⟩, ⟨by (with_reducible repeat (first | refine blk_drewN ?_ _ | refine blk_drew ?_ | refine blk_alloc ?_ _)); exact BK275.out⟩, ⟨by repeat (first | (with_reducible first | exact HB.out | apply below_alloc | apply pw_below_drewN | apply below_drew1 | refine below_set ?_ GE275.out) | exact HB.out)⟩⟩
      ·
       rw [if_neg c20] at H
       have c20b0 : (t277 == 1) = false := beq_eq_false_iff_ne.mpr c20
       have c20b1 : (t277 != 1) = true := bne_iff_ne.mpr c20
       have H' := Aside0.mk H
       clear H
       have hcz33_0 : w6.cell? ⟨gb275, 0, none⟩ = some (.string a0_0) := (blk_cell BK275.out 0).trans rfl
       have hcz33_1 : w6.cell? ⟨gb275, 1, none⟩ = some (.string a0_1) := (blk_cell BK275.out 1).trans rfl
       have hcz33_2 : w6.cell? ⟨gb275, 2, none⟩ = some (.string a0_2) := (blk_cell BK275.out 2).trans rfl
       have hcz33_3 : w6.cell? ⟨gb275, 3, none⟩ = some (.string a0_3) := (blk_cell BK275.out 3).trans rfl
       have hcz33_4 : w6.cell? ⟨gb275, 4, none⟩ = some (.int .i64 a0_4) := (blk_cell BK275.out 4).trans rfl
       have hcz33_5 : w6.cell? ⟨gb275, 5, none⟩ = some (.int .i64 a0_5) := (blk_cell BK275.out 5).trans rfl
       have hcz33_6 : w6.cell? ⟨gb275, 6, none⟩ = some (.bool a0_6) := (blk_cell BK275.out 6).trans rfl
       have hcz33_7 : w6.cell? ⟨gb275, 7, none⟩ = some (.bool a0_7) := (blk_cell BK275.out 7).trans rfl
       have hcz33_8 : w6.cell? ⟨gb275, 8, none⟩ = some (.bool a0_8) := (blk_cell BK275.out 8).trans rfl
       have hfz33_0 := blk_frozen BK275.out 0
       have hfz33_1 := blk_frozen BK275.out 1
       have hfz33_2 := blk_frozen BK275.out 2
       have hfz33_3 := blk_frozen BK275.out 3
       have hfz33_4 := blk_frozen BK275.out 4
       have hfz33_5 := blk_frozen BK275.out 5
       have hfz33_6 := blk_frozen BK275.out 6
       have hfz33_7 := blk_frozen BK275.out 7
       have hfz33_8 := blk_frozen BK275.out 8
       go_wp2_with (first | ((with_reducible refine gate_callee (f := 62) rfl ?_); refine goesL_ (some 15) rfl rfl Try.func62 (by kernel_rfl) rfl #[.string a0_0] rfl (by (try simp only [List.map_toArray, List.map_cons, List.map_nil]); first | done | rfl | (simp only [List.length_drop, List.length_take]; rfl)) ?_; (with_reducible refine (spec_token.calls k a0_0 true _ A7.out).mono ?_); rintro e w' ⟨rfl, ⟨nd, rfl⟩⟩; refine ⟨_, rfl, ?_⟩) | (go_at_call 62; (with_reducible refine (spec_token.calls k a0_1 true _ A9.out).mono ?_); rintro e w' ⟨rfl, ⟨nd, rfl⟩⟩))
       go_meet
       case rel => exact ⟨_, (true), (by first | rfl | (simp; done) | (simp [*]; done) | (simp [Go.Proofs.YtfbllodbcmcndaaX.isEmpty_ne]; done)), H', ⟨by first | omega | exact Nat.le_refl _⟩, ⟨by (with_reducible repeat (first | refine blk_drewN ?_ _ | refine blk_drew ?_ | refine blk_alloc ?_ _)); exact BK275.out⟩, ⟨by repeat (first | (with_reducible first | exact HB.out | apply below_alloc | apply pw_below_drewN | apply below_drew1 | refine below_set ?_ GE275.out) | exact HB.out)⟩⟩
    ·
     rw [if_neg c11] at H
     have c11b0 : (a0_2.toList == ([] : List UInt8)) = false := beq_eq_false_iff_ne.mpr c11
     have c11b1 : (a0_2.toList != ([] : List UInt8)) = true := bne_iff_ne.mpr c11
     (first | rw [c11b0] | (simp only [i64_w, i32_w]; rw [c11b0]) | (rw [Go.Proofs.YtfbllodbcmcndaaX.isEmpty_eq]; rw [c11b0]) | skip)
     replace H := Option.bind_eq_some_iff.mp H
     obtain ⟨t281, A340, H⟩ := H
     replace H : (if t281 = true then (if a0_3.toList = ([] : List UInt8) then (if a0_8 = true then (spec_CookieText.j0 k true a0_0 a0_1 a0_2 a0_3 a0_4 a0_5 a0_6 a0_7 a0_8) else (if a0_4 < 0 then (spec_CookieText.j0 k true a0_0 a0_1 a0_2 a0_3 a0_4 a0_5 a0_6 a0_7 a0_8) else (if a0_5 < 0 then (spec_CookieText.j0 k true a0_0 a0_1 a0_2 a0_3 a0_4 a0_5 a0_6 a0_7 a0_8) else (spec_CookieText.j0 k (decide (a0_5 > 4)) a0_0 a0_1 a0_2 a0_3 a0_4 a0_5 a0_6 a0_7 a0_8)))) else (if t277 = 1 then (if t276.toList = a0_3.toList then ((spec_quoted.f k t276 (⟨#[47]⟩ : ByteArray) (⟨#[]⟩ : ByteArray)).bind fun t282 => (if t282.toList = t276.toList then (if a0_8 = true then (spec_CookieText.j0 k true a0_0 a0_1 a0_2 a0_3 a0_4 a0_5 a0_6 a0_7 a0_8) else (if a0_4 < 0 then (spec_CookieText.j0 k true a0_0 a0_1 a0_2 a0_3 a0_4 a0_5 a0_6 a0_7 a0_8) else (if a0_5 < 0 then (spec_CookieText.j0 k true a0_0 a0_1 a0_2 a0_3 a0_4 a0_5 a0_6 a0_7 a0_8) else (spec_CookieText.j0 k (decide (a0_5 > 4)) a0_0 a0_1 a0_2 a0_3 a0_4 a0_5 a0_6 a0_7 a0_8)))) else (spec_CookieText.j0 k true a0_0 a0_1 a0_2 a0_3 a0_4 a0_5 a0_6 a0_7 a0_8))) else (spec_CookieText.j0 k true a0_0 a0_1 a0_2 a0_3 a0_4 a0_5 a0_6 a0_7 a0_8)) else (spec_CookieText.j0 k true a0_0 a0_1 a0_2 a0_3 a0_4 a0_5 a0_6 a0_7 a0_8))) else (spec_CookieText.j0 k true a0_0 a0_1 a0_2 a0_3 a0_4 a0_5 a0_6 a0_7 a0_8)) = some (r1, r2) := H
     have A34 := Aside0.mk A340
     clear A340
     by_cases c35 : t281 = true
     ·
      subst c35
      have H1 : (if a0_3.toList = ([] : List UInt8) then (if a0_8 = true then (spec_CookieText.j0 k true a0_0 a0_1 a0_2 a0_3 a0_4 a0_5 a0_6 a0_7 a0_8) else (if a0_4 < 0 then (spec_CookieText.j0 k true a0_0 a0_1 a0_2 a0_3 a0_4 a0_5 a0_6 a0_7 a0_8) else (if a0_5 < 0 then (spec_CookieText.j0 k true a0_0 a0_1 a0_2 a0_3 a0_4 a0_5 a0_6 a0_7 a0_8) else (spec_CookieText.j0 k (decide (a0_5 > 4)) a0_0 a0_1 a0_2 a0_3 a0_4 a0_5 a0_6 a0_7 a0_8)))) else (if t277 = 1 then (if t276.toList = a0_3.toList then ((spec_quoted.f k t276 (⟨#[47]⟩ : ByteArray) (⟨#[]⟩ : ByteArray)).bind fun t282 => (if t282.toList = t276.toList then (if a0_8 = true then (spec_CookieText.j0 k true a0_0 a0_1 a0_2 a0_3 a0_4 a0_5 a0_6 a0_7 a0_8) else (if a0_4 < 0 then (spec_CookieText.j0 k true a0_0 a0_1 a0_2 a0_3 a0_4 a0_5 a0_6 a0_7 a0_8) else (if a0_5 < 0 then (spec_CookieText.j0 k true a0_0 a0_1 a0_2 a0_3 a0_4 a0_5 a0_6 a0_7 a0_8) else (spec_CookieText.j0 k (decide (a0_5 > 4)) a0_0 a0_1 a0_2 a0_3 a0_4 a0_5 a0_6 a0_7 a0_8)))) else (spec_CookieText.j0 k true a0_0 a0_1 a0_2 a0_3 a0_4 a0_5 a0_6 a0_7 a0_8))) else (spec_CookieText.j0 k true a0_0 a0_1 a0_2 a0_3 a0_4 a0_5 a0_6 a0_7 a0_8)) else (spec_CookieText.j0 k true a0_0 a0_1 a0_2 a0_3 a0_4 a0_5 a0_6 a0_7 a0_8))) = some (r1, r2) := by rw [if_pos rfl] at H; exact H
      clear H
      have H := H1
      clear H1
      by_cases c36 : a0_3.toList = ([] : List UInt8)
      ·
       rw [if_pos c36] at H
       have c36b0 : (a0_3.toList == ([] : List UInt8)) = true := beq_iff_eq.mpr c36
       have c36b1 : (a0_3.toList != ([] : List UInt8)) = false := bne_eq_false_iff_eq.mpr c36
       clear c36
       by_cases c37 : a0_8 = true
       ·
        subst c37
        have H1 : (spec_CookieText.j0 k true a0_0 a0_1 a0_2 a0_3 a0_4 a0_5 a0_6 a0_7 true) = some (r1, r2) := by rw [if_pos rfl] at H; exact H
        clear H
        have H := H1
        clear H1
        have H' := Aside0.mk H
        clear H
        have hcz38_0 : w6.cell? ⟨gb275, 0, none⟩ = some (.string a0_0) := (blk_cell BK275.out 0).trans rfl
        have hcz38_1 : w6.cell? ⟨gb275, 1, none⟩ = some (.string a0_1) := (blk_cell BK275.out 1).trans rfl
        have hcz38_2 : w6.cell? ⟨gb275, 2, none⟩ = some (.string a0_2) := (blk_cell BK275.out 2).trans rfl
        have hcz38_3 : w6.cell? ⟨gb275, 3, none⟩ = some (.string a0_3) := (blk_cell BK275.out 3).trans rfl
        have hcz38_4 : w6.cell? ⟨gb275, 4, none⟩ = some (.int .i64 a0_4) := (blk_cell BK275.out 4).trans rfl
        have hcz38_5 : w6.cell? ⟨gb275, 5, none⟩ = some (.int .i64 a0_5) := (blk_cell BK275.out 5).trans rfl
        have hcz38_6 : w6.cell? ⟨gb275, 6, none⟩ = some (.bool a0_6) := (blk_cell BK275.out 6).trans rfl
        have hcz38_7 : w6.cell? ⟨gb275, 7, none⟩ = some (.bool a0_7) := (blk_cell BK275.out 7).trans rfl
        have hcz38_8 : w6.cell? ⟨gb275, 8, none⟩ = some (.bool true) := (blk_cell BK275.out 8).trans rfl
        have hfz38_0 := blk_frozen BK275.out 0
        have hfz38_1 := blk_frozen BK275.out 1
        have hfz38_2 := blk_frozen BK275.out 2
        have hfz38_3 := blk_frozen BK275.out 3
        have hfz38_4 := blk_frozen BK275.out 4
        have hfz38_5 := blk_frozen BK275.out 5
        have hfz38_6 := blk_frozen BK275.out 6
        have hfz38_7 := blk_frozen BK275.out 7
        have hfz38_8 := blk_frozen BK275.out 8
        go_wp2_with (first | ((with_reducible refine gate_callee (f := 62) rfl ?_); refine goesL_ (some 15) rfl rfl Try.func62 (by kernel_rfl) rfl #[.string a0_0] rfl (by (try simp only [List.map_toArray, List.map_cons, List.map_nil]); first | done | rfl | (simp only [List.length_drop, List.length_take]; rfl)) ?_; (with_reducible refine (spec_token.calls k a0_0 true _ A7.out).mono ?_); rintro e w' ⟨rfl, ⟨nd, rfl⟩⟩; refine ⟨_, rfl, ?_⟩) | (go_at_call 62; (with_reducible refine (spec_token.calls k a0_1 true _ A9.out).mono ?_); rintro e w' ⟨rfl, ⟨nd, rfl⟩⟩) | (go_at_call 62; (with_reducible refine (spec_token.calls k a0_2 true _ A34.out).mono ?_); rintro e w' ⟨rfl, ⟨nd, rfl⟩⟩))
        go_meet
        case rel => exact ⟨_, (true), (by first | rfl | (simp; done) | (simp [*]; done) | (simp [Go.Proofs.YtfbllodbcmcndaaX.isEmpty_ne]; done)), H', ⟨by first | omega | exact Nat.le_refl _⟩, ⟨by (with_reducible repeat (first | refine blk_drewN ?_ _ | refine blk_drew ?_ | refine blk_alloc ?_ _)); exact BK275.out⟩, ⟨by repeat (first | (with_reducible first | exact HB.out | apply below_alloc | apply pw_below_drewN | apply below_drew1 | refine below_set ?_ GE275.out) | exact HB.out)⟩⟩
       ·
        replace c37 := Bool.eq_false_iff.mpr c37
        subst c37
        have H1 : (if a0_4 < 0 then (spec_CookieText.j0 k true a0_0 a0_1 a0_2 a0_3 a0_4 a0_5 a0_6 a0_7 false) else (if a0_5 < 0 then (spec_CookieText.j0 k true a0_0 a0_1 a0_2 a0_3 a0_4 a0_5 a0_6 a0_7 false) else (spec_CookieText.j0 k (decide (a0_5 > 4)) a0_0 a0_1 a0_2 a0_3 a0_4 a0_5 a0_6 a0_7 false))) = some (r1, r2) := by rw [if_neg (show ¬ (false = true) by decide)] at H; exact H
        clear H
        have H := H1
        clear H1
        by_cases c39 : a0_4 < 0
        ·
         rw [if_pos c39] at H
         have c39b0 : decide (a0_4 < 0) = true := decide_eq_true c39
         clear c39
         have H' := Aside0.mk H
         clear H
         have hcz40_0 : w6.cell? ⟨gb275, 0, none⟩ = some (.string a0_0) := (blk_cell BK275.out 0).trans rfl
         have hcz40_1 : w6.cell? ⟨gb275, 1, none⟩ = some (.string a0_1) := (blk_cell BK275.out 1).trans rfl
         have hcz40_2 : w6.cell? ⟨gb275, 2, none⟩ = some (.string a0_2) := (blk_cell BK275.out 2).trans rfl
         have hcz40_3 : w6.cell? ⟨gb275, 3, none⟩ = some (.string a0_3) := (blk_cell BK275.out 3).trans rfl
         have hcz40_4 : w6.cell? ⟨gb275, 4, none⟩ = some (.int .i64 a0_4) := (blk_cell BK275.out 4).trans rfl
         have hcz40_5 : w6.cell? ⟨gb275, 5, none⟩ = some (.int .i64 a0_5) := (blk_cell BK275.out 5).trans rfl
         have hcz40_6 : w6.cell? ⟨gb275, 6, none⟩ = some (.bool a0_6) := (blk_cell BK275.out 6).trans rfl
         have hcz40_7 : w6.cell? ⟨gb275, 7, none⟩ = some (.bool a0_7) := (blk_cell BK275.out 7).trans rfl
         have hcz40_8 : w6.cell? ⟨gb275, 8, none⟩ = some (.bool false) := (blk_cell BK275.out 8).trans rfl
         have hfz40_0 := blk_frozen BK275.out 0
         have hfz40_1 := blk_frozen BK275.out 1
         have hfz40_2 := blk_frozen BK275.out 2
         have hfz40_3 := blk_frozen BK275.out 3
         have hfz40_4 := blk_frozen BK275.out 4
         have hfz40_5 := blk_frozen BK275.out 5
         have hfz40_6 := blk_frozen BK275.out 6
         have hfz40_7 := blk_frozen BK275.out 7
         have hfz40_8 := blk_frozen BK275.out 8
         go_wp2_with (first | ((with_reducible refine gate_callee (f := 62) rfl ?_); refine goesL_ (some 15) rfl rfl Try.func62 (by kernel_rfl) rfl #[.string a0_0] rfl (by (try simp only [List.map_toArray, List.map_cons, List.map_nil]); first | done | rfl | (simp only [List.length_drop, List.length_take]; rfl)) ?_; (with_reducible refine (spec_token.calls k a0_0 true _ A7.out).mono ?_); rintro e w' ⟨rfl, ⟨nd, rfl⟩⟩; refine ⟨_, rfl, ?_⟩) | (go_at_call 62; (with_reducible refine (spec_token.calls k a0_1 true _ A9.out).mono ?_); rintro e w' ⟨rfl, ⟨nd, rfl⟩⟩) | (go_at_call 62; (with_reducible refine (spec_token.calls k a0_2 true _ A34.out).mono ?_); rintro e w' ⟨rfl, ⟨nd, rfl⟩⟩))
         go_meet
         case rel => exact ⟨_, (true), (by first | rfl | (simp; done) | (simp [*]; done) | (simp [Go.Proofs.YtfbllodbcmcndaaX.isEmpty_ne]; done)), H', ⟨by first | omega | exact Nat.le_refl _⟩, ⟨by (with_reducible repeat (first | refine blk_drewN ?_ _ | refine blk_drew ?_ | refine blk_alloc ?_ _)); exact BK275.out⟩, ⟨by repeat (first | (with_reducible first | exact HB.out | apply below_alloc | apply pw_below_drewN | apply below_drew1 | refine below_set ?_ GE275.out) | exact HB.out)⟩⟩
        ·
         rw [if_neg c39] at H
         have c39b0 : decide (a0_4 < 0) = false := decide_eq_false c39
         clear c39
         by_cases c41 : a0_5 < 0
         ·
          rw [if_pos c41] at H
          have c41b0 : decide (a0_5 < 0) = true := decide_eq_true c41
          clear c41
          have H' := Aside0.mk H
          clear H
          have hcz42_0 : w6.cell? ⟨gb275, 0, none⟩ = some (.string a0_0) := (blk_cell BK275.out 0).trans rfl
          have hcz42_1 : w6.cell? ⟨gb275, 1, none⟩ = some (.string a0_1) := (blk_cell BK275.out 1).trans rfl
          have hcz42_2 : w6.cell? ⟨gb275, 2, none⟩ = some (.string a0_2) := (blk_cell BK275.out 2).trans rfl
          have hcz42_3 : w6.cell? ⟨gb275, 3, none⟩ = some (.string a0_3) := (blk_cell BK275.out 3).trans rfl
          have hcz42_4 : w6.cell? ⟨gb275, 4, none⟩ = some (.int .i64 a0_4) := (blk_cell BK275.out 4).trans rfl
          have hcz42_5 : w6.cell? ⟨gb275, 5, none⟩ = some (.int .i64 a0_5) := (blk_cell BK275.out 5).trans rfl
          have hcz42_6 : w6.cell? ⟨gb275, 6, none⟩ = some (.bool a0_6) := (blk_cell BK275.out 6).trans rfl
          have hcz42_7 : w6.cell? ⟨gb275, 7, none⟩ = some (.bool a0_7) := (blk_cell BK275.out 7).trans rfl
          have hcz42_8 : w6.cell? ⟨gb275, 8, none⟩ = some (.bool false) := (blk_cell BK275.out 8).trans rfl
          have hfz42_0 := blk_frozen BK275.out 0
          have hfz42_1 := blk_frozen BK275.out 1
          have hfz42_2 := blk_frozen BK275.out 2
          have hfz42_3 := blk_frozen BK275.out 3
          have hfz42_4 := blk_frozen BK275.out 4
          have hfz42_5 := blk_frozen BK275.out 5
          have hfz42_6 := blk_frozen BK275.out 6
          have hfz42_7 := blk_frozen BK275.out 7
          have hfz42_8 := blk_frozen BK275.out 8
          go_wp2_with (first | ((with_reducible refine gate_callee (f := 62) rfl ?_); refine goesL_ (some 15) rfl rfl Try.func62 (by kernel_rfl) rfl #[.string a0_0] rfl (by (try simp only [List.map_toArray, List.map_cons, List.map_nil]); first | done | rfl | (simp only [List.length_drop, List.length_take]; rfl)) ?_; (with_reducible refine (spec_token.calls k a0_0 true _ A7.out).mono ?_); rintro e w' ⟨rfl, ⟨nd, rfl⟩⟩; refine ⟨_, rfl, ?_⟩) | (go_at_call 62; (with_reducible refine (spec_token.calls k a0_1 true _ A9.out).mono ?_); rintro e w' ⟨rfl, ⟨nd, rfl⟩⟩) | (go_at_call 62; (with_reducible refine (spec_token.calls k a0_2 true _ A34.out).mono ?_); rintro e w' ⟨rfl, ⟨nd, rfl⟩⟩))
          go_meet
          case rel => exact ⟨_, (true), (by first | rfl | (simp; done) | (simp [*]; done) | (simp [Go.Proofs.YtfbllodbcmcndaaX.isEmpty_ne]; done)), H', ⟨by first | omega | exact Nat.le_refl _⟩, ⟨by (with_reducible repeat (first | refine blk_drewN ?_ _ | refine blk_drew ?_ | refine blk_alloc ?_ _)); exact BK275.out⟩, ⟨by repeat (first | (with_reducible first | exact HB.out | apply below_alloc | apply pw_below_drewN | apply below_drew1 | refine below_set ?_ GE275.out) | exact HB.out)⟩⟩
         ·
          rw [if_neg c41] at H
          have c41b0 : decide (a0_5 < 0) = false := decide_eq_false c41
          clear c41
          have H' := Aside0.mk H
          clear H
          have hcz43_0 : w6.cell? ⟨gb275, 0, none⟩ = some (.string a0_0) := (blk_cell BK275.out 0).trans rfl
          have hcz43_1 : w6.cell? ⟨gb275, 1, none⟩ = some (.string a0_1) := (blk_cell BK275.out 1).trans rfl
          have hcz43_2 : w6.cell? ⟨gb275, 2, none⟩ = some (.string a0_2) := (blk_cell BK275.out 2).trans rfl
          have hcz43_3 : w6.cell? ⟨gb275, 3, none⟩ = some (.string a0_3) := (blk_cell BK275.out 3).trans rfl
          have hcz43_4 : w6.cell? ⟨gb275, 4, none⟩ = some (.int .i64 a0_4) := (blk_cell BK275.out 4).trans rfl
          have hcz43_5 : w6.cell? ⟨gb275, 5, none⟩ = some (.int .i64 a0_5) := (blk_cell BK275.out 5).trans rfl
          have hcz43_6 : w6.cell? ⟨gb275, 6, none⟩ = some (.bool a0_6) := (blk_cell BK275.out 6).trans rfl
          have hcz43_7 : w6.cell? ⟨gb275, 7, none⟩ = some (.bool a0_7) := (blk_cell BK275.out 7).trans rfl
          have hcz43_8 : w6.cell? ⟨gb275, 8, none⟩ = some (.bool false) := (blk_cell BK275.out 8).trans rfl
          have hfz43_0 := blk_frozen BK275.out 0
          have hfz43_1 := blk_frozen BK275.out 1
          have hfz43_2 := blk_frozen BK275.out 2
          have hfz43_3 := blk_frozen BK275.out 3
          have hfz43_4 := blk_frozen BK275.out 4
          have hfz43_5 := blk_frozen BK275.out 5
          have hfz43_6 := blk_frozen BK275.out 6
          have hfz43_7 := blk_frozen BK275.out 7
          have hfz43_8 := blk_frozen BK275.out 8
          go_wp2_with (first | ((with_reducible refine gate_callee (f := 62) rfl ?_); refine goesL_ (some 15) rfl rfl Try.func62 (by kernel_rfl) rfl #[.string a0_0] rfl (by (try simp only [List.map_toArray, List.map_cons, List.map_nil]); first | done | rfl | (simp only [List.length_drop, List.length_take]; rfl)) ?_; (with_reducible refine (spec_token.calls k a0_0 true _ A7.out).mono ?_); rintro e w' ⟨rfl, ⟨nd, rfl⟩⟩; refine ⟨_, rfl, ?_⟩) | (go_at_call 62; (with_reducible refine (spec_token.calls k a0_1 true _ A9.out).mono ?_); rintro e w' ⟨rfl, ⟨nd, rfl⟩⟩) | (go_at_call 62; (with_reducible refine (spec_token.calls k a0_2 true _ A34.out).mono ?_); rintro e w' ⟨rfl, ⟨nd, rfl⟩⟩))
          go_meet
          case rel => exact ⟨_, (decide (a0_5 > 4)), (by first | rfl | (simp; done) | (simp [*]; done) | (simp [Go.Proofs.YtfbllodbcmcndaaX.isEmpty_ne]; done)), H', ⟨by first | omega | exact Nat.le_refl _⟩, ⟨by (with_reducible repeat (first | refine blk_drewN ?_ _ | refine blk_drew ?_ | refine blk_alloc ?_ _)); exact BK275.out⟩, ⟨by repeat (first | (with_reducible first | exact HB.out | apply below_alloc | apply pw_below_drewN | apply below_drew1 | refine below_set ?_ GE275.out) | exact HB.out)⟩⟩
      ·
       rw [if_neg c36] at H
       have c36b0 : (a0_3.toList == ([] : List UInt8)) = false := beq_eq_false_iff_ne.mpr c36
       have c36b1 : (a0_3.toList != ([] : List UInt8)) = true := bne_iff_ne.mpr c36
       by_cases c44 : t277 = 1
       ·
        rw [if_pos c44] at H
        have c44b0 : (t277 == 1) = true := beq_iff_eq.mpr c44
        have c44b1 : (t277 != 1) = false := bne_eq_false_iff_eq.mpr c44
        clear c44
        by_cases c45 : t276.toList = a0_3.toList
        ·
         rw [if_pos c45] at H
         have c45b0 : (t276.toList == a0_3.toList) = true := beq_iff_eq.mpr c45
         have c45b1 : (t276.toList != a0_3.toList) = false := bne_eq_false_iff_eq.mpr c45
         clear c45
         replace H := Option.bind_eq_some_iff.mp H
         obtain ⟨t282, A460, H⟩ := H
         replace H : (if t282.toList = t276.toList then (if a0_8 = true then (spec_CookieText.j0 k true a0_0 a0_1 a0_2 a0_3 a0_4 a0_5 a0_6 a0_7 a0_8) else (if a0_4 < 0 then (spec_CookieText.j0 k true a0_0 a0_1 a0_2 a0_3 a0_4 a0_5 a0_6 a0_7 a0_8) else (if a0_5 < 0 then (spec_CookieText.j0 k true a0_0 a0_1 a0_2 a0_3 a0_4 a0_5 a0_6 a0_7 a0_8) else (spec_CookieText.j0 k (decide (a0_5 > 4)) a0_0 a0_1 a0_2 a0_3 a0_4 a0_5 a0_6 a0_7 a0_8)))) else (spec_CookieText.j0 k true a0_0 a0_1 a0_2 a0_3 a0_4 a0_5 a0_6 a0_7 a0_8)) = some (r1, r2) := H
         have A46 := Aside0.mk A460
         clear A460
         by_cases c47 : t282.toList = t276.toList
         ·
          rw [if_pos c47] at H
          have c47b0 : (t282.toList == t276.toList) = true := beq_iff_eq.mpr c47
          have c47b1 : (t282.toList != t276.toList) = false := bne_eq_false_iff_eq.mpr c47
          clear c47
          by_cases c48 : a0_8 = true
          ·
           subst c48
           have H1 : (spec_CookieText.j0 k true a0_0 a0_1 a0_2 a0_3 a0_4 a0_5 a0_6 a0_7 true) = some (r1, r2) := by rw [if_pos rfl] at H; exact H
           clear H
           have H := H1
           clear H1
           have H' := Aside0.mk H
           clear H
           have hcz49_0 : w6.cell? ⟨gb275, 0, none⟩ = some (.string a0_0) := (blk_cell BK275.out 0).trans rfl
           have hcz49_1 : w6.cell? ⟨gb275, 1, none⟩ = some (.string a0_1) := (blk_cell BK275.out 1).trans rfl
           have hcz49_2 : w6.cell? ⟨gb275, 2, none⟩ = some (.string a0_2) := (blk_cell BK275.out 2).trans rfl
           have hcz49_3 : w6.cell? ⟨gb275, 3, none⟩ = some (.string a0_3) := (blk_cell BK275.out 3).trans rfl
           have hcz49_4 : w6.cell? ⟨gb275, 4, none⟩ = some (.int .i64 a0_4) := (blk_cell BK275.out 4).trans rfl
           have hcz49_5 : w6.cell? ⟨gb275, 5, none⟩ = some (.int .i64 a0_5) := (blk_cell BK275.out 5).trans rfl
           have hcz49_6 : w6.cell? ⟨gb275, 6, none⟩ = some (.bool a0_6) := (blk_cell BK275.out 6).trans rfl
           have hcz49_7 : w6.cell? ⟨gb275, 7, none⟩ = some (.bool a0_7) := (blk_cell BK275.out 7).trans rfl
           have hcz49_8 : w6.cell? ⟨gb275, 8, none⟩ = some (.bool true) := (blk_cell BK275.out 8).trans rfl
           have hfz49_0 := blk_frozen BK275.out 0
           have hfz49_1 := blk_frozen BK275.out 1
           have hfz49_2 := blk_frozen BK275.out 2
           have hfz49_3 := blk_frozen BK275.out 3
           have hfz49_4 := blk_frozen BK275.out 4
           have hfz49_5 := blk_frozen BK275.out 5
           have hfz49_6 := blk_frozen BK275.out 6
           have hfz49_7 := blk_frozen BK275.out 7
           have hfz49_8 := blk_frozen BK275.out 8
           go_wp2_with (first | ((with_reducible refine gate_callee (f := 62) rfl ?_); refine goesL_ (some 15) rfl rfl Try.func62 (by kernel_rfl) rfl #[.string a0_0] rfl (by (try simp only [List.map_toArray, List.map_cons, List.map_nil]); first | done | rfl | (simp only [List.length_drop, List.length_take]; rfl)) ?_; (with_reducible refine (spec_token.calls k a0_0 true _ A7.out).mono ?_); rintro e w' ⟨rfl, ⟨nd, rfl⟩⟩; refine ⟨_, rfl, ?_⟩) | (go_at_call 62; (with_reducible refine (spec_token.calls k a0_1 true _ A9.out).mono ?_); rintro e w' ⟨rfl, ⟨nd, rfl⟩⟩) | (go_at_call 62; (with_reducible refine (spec_token.calls k a0_2 true _ A34.out).mono ?_); rintro e w' ⟨rfl, ⟨nd, rfl⟩⟩) | (go_at_call 63; (with_reducible refine (spec_quoted.calls k t276 (⟨#[47]⟩ : ByteArray) (⟨#[]⟩ : ByteArray) t282 _ A46.out).mono ?_); rintro e w' ⟨rfl, ⟨nd, rfl⟩⟩))
           go_meet
           case rel => exact ⟨_, (true), (by first | rfl | (simp; done) | (simp [*]; done) | (simp [Go.Proofs.YtfbllodbcmcndaaX.isEmpty_ne]; done)), H', ⟨by first | omega | exact Nat.le_refl _⟩, ⟨by (with_reducible repeat (first | refine blk_drewN ?_ _ | refine blk_drew ?_ | refine blk_alloc ?_ _)); exact BK275.out⟩, ⟨by repeat (first | (with_reducible first | exact HB.out | apply below_alloc | apply pw_below_drewN | apply below_drew1 | refine below_set ?_ GE275.out) | exact HB.out)⟩⟩
          ·
           replace c48 := Bool.eq_false_iff.mpr c48
           subst c48
           have H1 : (if a0_4 < 0 then (spec_CookieText.j0 k true a0_0 a0_1 a0_2 a0_3 a0_4 a0_5 a0_6 a0_7 false) else (if a0_5 < 0 then (spec_CookieText.j0 k true a0_0 a0_1 a0_2 a0_3 a0_4 a0_5 a0_6 a0_7 false) else (spec_CookieText.j0 k (decide (a0_5 > 4)) a0_0 a0_1 a0_2 a0_3 a0_4 a0_5 a0_6 a0_7 false))) = some (r1, r2) := by rw [if_neg (show ¬ (false = true) by decide)] at H; exact H
           clear H
           have H := H1
           clear H1
           by_cases c50 : a0_4 < 0
           ·
            rw [if_pos c50] at H
            have c50b0 : decide (a0_4 < 0) = true := decide_eq_true c50
            clear c50
            have H' := Aside0.mk H
            clear H
            have hcz51_0 : w6.cell? ⟨gb275, 0, none⟩ = some (.string a0_0) := (blk_cell BK275.out 0).trans rfl
            have hcz51_1 : w6.cell? ⟨gb275, 1, none⟩ = some (.string a0_1) := (blk_cell BK275.out 1).trans rfl
            have hcz51_2 : w6.cell? ⟨gb275, 2, none⟩ = some (.string a0_2) := (blk_cell BK275.out 2).trans rfl
            have hcz51_3 : w6.cell? ⟨gb275, 3, none⟩ = some (.string a0_3) := (blk_cell BK275.out 3).trans rfl
            have hcz51_4 : w6.cell? ⟨gb275, 4, none⟩ = some (.int .i64 a0_4) := (blk_cell BK275.out 4).trans rfl
            have hcz51_5 : w6.cell? ⟨gb275, 5, none⟩ = some (.int .i64 a0_5) := (blk_cell BK275.out 5).trans rfl
            have hcz51_6 : w6.cell? ⟨gb275, 6, none⟩ = some (.bool a0_6) := (blk_cell BK275.out 6).trans rfl
            have hcz51_7 : w6.cell? ⟨gb275, 7, none⟩ = some (.bool a0_7) := (blk_cell BK275.out 7).trans rfl
            have hcz51_8 : w6.cell? ⟨gb275, 8, none⟩ = some (.bool false) := (blk_cell BK275.out 8).trans rfl
            have hfz51_0 := blk_frozen BK275.out 0
            have hfz51_1 := blk_frozen BK275.out 1
            have hfz51_2 := blk_frozen BK275.out 2
            have hfz51_3 := blk_frozen BK275.out 3
            have hfz51_4 := blk_frozen BK275.out 4
            have hfz51_5 := blk_frozen BK275.out 5
            have hfz51_6 := blk_frozen BK275.out 6
            have hfz51_7 := blk_frozen BK275.out 7
            have hfz51_8 := blk_frozen BK275.out 8
            go_wp2_with (first | ((with_reducible refine gate_callee (f := 62) rfl ?_); refine goesL_ (some 15) rfl rfl Try.func62 (by kernel_rfl) rfl #[.string a0_0] rfl (by (try simp only [List.map_toArray, List.map_cons, List.map_nil]); first | done | rfl | (simp only [List.length_drop, List.length_take]; rfl)) ?_; (with_reducible refine (spec_token.calls k a0_0 true _ A7.out).mono ?_); rintro e w' ⟨rfl, ⟨nd, rfl⟩⟩; refine ⟨_, rfl, ?_⟩) | (go_at_call 62; (with_reducible refine (spec_token.calls k a0_1 true _ A9.out).mono ?_); rintro e w' ⟨rfl, ⟨nd, rfl⟩⟩) | (go_at_call 62; (with_reducible refine (spec_token.calls k a0_2 true _ A34.out).mono ?_); rintro e w' ⟨rfl, ⟨nd, rfl⟩⟩) | (go_at_call 63; (with_reducible refine (spec_quoted.calls k t276 (⟨#[47]⟩ : ByteArray) (⟨#[]⟩ : ByteArray) t282 _ A46.out).mono ?_); rintro e w' ⟨rfl, ⟨nd, rfl⟩⟩))
            go_meet
            case rel => exact ⟨_, (true), (by first | rfl | (simp; done) | (simp [*]; done) | (simp [Go.Proofs.YtfbllodbcmcndaaX.isEmpty_ne]; done)), H', ⟨by first | omega | exact Nat.le_refl _⟩, ⟨by (with_reducible repeat (first | refine blk_drewN ?_ _ | refine blk_drew ?_ | refine blk_alloc ?_ _)); exact BK275.out⟩, ⟨by repeat (first | (with_reducible first | exact HB.out | apply below_alloc | apply pw_below_drewN | apply below_drew1 | refine below_set ?_ GE275.out) | exact HB.out)⟩⟩
           ·
            rw [if_neg c50] at H
            have c50b0 : decide (a0_4 < 0) = false := decide_eq_false c50
            clear c50
            by_cases c52 : a0_5 < 0
            ·
             rw [if_pos c52] at H
             have c52b0 : decide (a0_5 < 0) = true := decide_eq_true c52
             clear c52
             have H' := Aside0.mk H
             clear H
             have hcz53_0 : w6.cell? ⟨gb275, 0, none⟩ = some (.string a0_0) := (blk_cell BK275.out 0).trans rfl
             have hcz53_1 : w6.cell? ⟨gb275, 1, none⟩ = some (.string a0_1) := (blk_cell BK275.out 1).trans rfl
             have hcz53_2 : w6.cell? ⟨gb275, 2, none⟩ = some (.string a0_2) := (blk_cell BK275.out 2).trans rfl
             have hcz53_3 : w6.cell? ⟨gb275, 3, none⟩ = some (.string a0_3) := (blk_cell BK275.out 3).trans rfl
             have hcz53_4 : w6.cell? ⟨gb275, 4, none⟩ = some (.int .i64 a0_4) := (blk_cell BK275.out 4).trans rfl
             have hcz53_5 : w6.cell? ⟨gb275, 5, none⟩ = some (.int .i64 a0_5) := (blk_cell BK275.out 5).trans rfl
             have hcz53_6 : w6.cell? ⟨gb275, 6, none⟩ = some (.bool a0_6) := (blk_cell BK275.out 6).trans rfl
             have hcz53_7 : w6.cell? ⟨gb275, 7, none⟩ = some (.bool a0_7) := (blk_cell BK275.out 7).trans rfl
             have hcz53_8 : w6.cell? ⟨gb275, 8, none⟩ = some (.bool false) := (blk_cell BK275.out 8).trans rfl
             have hfz53_0 := blk_frozen BK275.out 0
             have hfz53_1 := blk_frozen BK275.out 1
             have hfz53_2 := blk_frozen BK275.out 2
             have hfz53_3 := blk_frozen BK275.out 3
             have hfz53_4 := blk_frozen BK275.out 4
             have hfz53_5 := blk_frozen BK275.out 5
             have hfz53_6 := blk_frozen BK275.out 6
             have hfz53_7 := blk_frozen BK275.out 7
             have hfz53_8 := blk_frozen BK275.out 8
             go_wp2_with (first | ((with_reducible refine gate_callee (f := 62) rfl ?_); refine goesL_ (some 15) rfl rfl Try.func62 (by kernel_rfl) rfl #[.string a0_0] rfl (by (try simp only [List.map_toArray, List.map_cons, List.map_nil]); first | done | rfl | (simp only [List.length_drop, List.length_take]; rfl)) ?_; (with_reducible refine (spec_token.calls k a0_0 true _ A7.out).mono ?_); rintro e w' ⟨rfl, ⟨nd, rfl⟩⟩; refine ⟨_, rfl, ?_⟩) | (go_at_call 62; (with_reducible refine (spec_token.calls k a0_1 true _ A9.out).mono ?_); rintro e w' ⟨rfl, ⟨nd, rfl⟩⟩) | (go_at_call 62; (with_reducible refine (spec_token.calls k a0_2 true _ A34.out).mono ?_); rintro e w' ⟨rfl, ⟨nd, rfl⟩⟩) | (go_at_call 63; (with_reducible refine (spec_quoted.calls k t276 (⟨#[47]⟩ : ByteArray) (⟨#[]⟩ : ByteArray) t282 _ A46.out).mono ?_); rintro e w' ⟨rfl, ⟨nd, rfl⟩⟩))
             go_meet
             case rel => exact ⟨_, (true), (by first | rfl | (simp; done) | (simp [*]; done) | (simp [Go.Proofs.YtfbllodbcmcndaaX.isEmpty_ne]; done)), H', ⟨by first | omega | exact Nat.le_refl _⟩, ⟨by (with_reducible repeat (first | refine blk_drewN ?_ _ | refine blk_drew ?_ | refine blk_alloc ?_ _)); exact BK275.out⟩, ⟨by repeat (first | (with_reducible first | exact HB.out | apply below_alloc | apply pw_below_drewN | apply below_drew1 | refine below_set ?_ GE275.out) | exact HB.out)⟩⟩
            ·
             rw [if_neg c52] at H
             have c52b0 : decide (a0_5 < 0) = false := decide_eq_false c52
             clear c52
             have H' := Aside0.mk H
             clear H
             have hcz54_0 : w6.cell? ⟨gb275, 0, none⟩ = some (.string a0_0) := (blk_cell BK275.out 0).trans rfl
             have hcz54_1 : w6.cell? ⟨gb275, 1, none⟩ = some (.string a0_1) := (blk_cell BK275.out 1).trans rfl
             have hcz54_2 : w6.cell? ⟨gb275, 2, none⟩ = some (.string a0_2) := (blk_cell BK275.out 2).trans rfl
             have hcz54_3 : w6.cell? ⟨gb275, 3, none⟩ = some (.string a0_3) := (blk_cell BK275.out 3).trans rfl
             have hcz54_4 : w6.cell? ⟨gb275, 4, none⟩ = some (.int .i64 a0_4) := (blk_cell BK275.out 4).trans rfl
             have hcz54_5 : w6.cell? ⟨gb275, 5, none⟩ = some (.int .i64 a0_5) := (blk_cell BK275.out 5).trans rfl
             have hcz54_6 : w6.cell? ⟨gb275, 6, none⟩ = some (.bool a0_6) := (blk_cell BK275.out 6).trans rfl
             have hcz54_7 : w6.cell? ⟨gb275, 7, none⟩ = some (.bool a0_7) := (blk_cell BK275.out 7).trans rfl
             have hcz54_8 : w6.cell? ⟨gb275, 8, none⟩ = some (.bool false) := (blk_cell BK275.out 8).trans rfl
             have hfz54_0 := blk_frozen BK275.out 0
             have hfz54_1 := blk_frozen BK275.out 1
             have hfz54_2 := blk_frozen BK275.out 2
             have hfz54_3 := blk_frozen BK275.out 3
             have hfz54_4 := blk_frozen BK275.out 4
             have hfz54_5 := blk_frozen BK275.out 5
             have hfz54_6 := blk_frozen BK275.out 6
             have hfz54_7 := blk_frozen BK275.out 7
             have hfz54_8 := blk_frozen BK275.out 8
             go_wp2_with (first | ((with_reducible refine gate_callee (f := 62) rfl ?_); refine goesL_ (some 15) rfl rfl Try.func62 (by kernel_rfl) rfl #[.string a0_0] rfl (by (try simp only [List.map_toArray, List.map_cons, List.map_nil]); first | done | rfl | (simp only [List.length_drop, List.length_take]; rfl)) ?_; (with_reducible refine (spec_token.calls k a0_0 true _ A7.out).mono ?_); rintro e w' ⟨rfl, ⟨nd, rfl⟩⟩; refine ⟨_, rfl, ?_⟩) | (go_at_call 62; (with_reducible refine (spec_token.calls k a0_1 true _ A9.out).mono ?_); rintro e w' ⟨rfl, ⟨nd, rfl⟩⟩) | (go_at_call 62; (with_reducible refine (spec_token.calls k a0_2 true _ A34.out).mono ?_); rintro e w' ⟨rfl, ⟨nd, rfl⟩⟩) | (go_at_call 63; (with_reducible refine (spec_quoted.calls k t276 (⟨#[47]⟩ : ByteArray) (⟨#[]⟩ : ByteArray) t282 _ A46.out).mono ?_); rintro e w' ⟨rfl, ⟨nd, rfl⟩⟩))
             go_meet
             case rel => exact ⟨_, (decide (a0_5 > 4)), (by first | rfl | (simp; done) | (simp [*]; done) | (simp [Go.Proofs.YtfbllodbcmcndaaX.isEmpty_ne]; done)), H', ⟨by first | omega | exact Nat.le_refl _⟩, ⟨by (with_reducible repeat (first | refine blk_drewN ?_ _ | refine blk_drew ?_ | refine blk_alloc ?_ _)); exact BK275.out⟩, ⟨by repeat (first | (with_reducible first | exact HB.out | apply below_alloc | apply pw_below_drewN | apply below_drew1 | refine below_set ?_ GE275.out) | exact HB.out)⟩⟩
         ·
          rw [if_neg c47] at H
          have c47b0 : (t282.toList == t276.toList) = false := beq_eq_false_iff_ne.mpr c47
          have c47b1 : (t282.toList != t276.toList) = true := bne_iff_ne.mpr c47
          have H' := Aside0.mk H
          clear H
          have hcz55_0 : w6.cell? ⟨gb275, 0, none⟩ = some (.string a0_0) := (blk_cell BK275.out 0).trans rfl
          have hcz55_1 : w6.cell? ⟨gb275, 1, none⟩ = some (.string a0_1) := (blk_cell BK275.out 1).trans rfl
          have hcz55_2 : w6.cell? ⟨gb275, 2, none⟩ = some (.string a0_2) := (blk_cell BK275.out 2).trans rfl
          have hcz55_3 : w6.cell? ⟨gb275, 3, none⟩ = some (.string a0_3) := (blk_cell BK275.out 3).trans rfl
          have hcz55_4 : w6.cell? ⟨gb275, 4, none⟩ = some (.int .i64 a0_4) := (blk_cell BK275.out 4).trans rfl
          have hcz55_5 : w6.cell? ⟨gb275, 5, none⟩ = some (.int .i64 a0_5) := (blk_cell BK275.out 5).trans rfl
          have hcz55_6 : w6.cell? ⟨gb275, 6, none⟩ = some (.bool a0_6) := (blk_cell BK275.out 6).trans rfl
          have hcz55_7 : w6.cell? ⟨gb275, 7, none⟩ = some (.bool a0_7) := (blk_cell BK275.out 7).trans rfl
          have hcz55_8 : w6.cell? ⟨gb275, 8, none⟩ = some (.bool a0_8) := (blk_cell BK275.out 8).trans rfl
          have hfz55_0 := blk_frozen BK275.out 0
          have hfz55_1 := blk_frozen BK275.out 1
          have hfz55_2 := blk_frozen BK275.out 2
          have hfz55_3 := blk_frozen BK275.out 3
          have hfz55_4 := blk_frozen BK275.out 4
          have hfz55_5 := blk_frozen BK275.out 5
          have hfz55_6 := blk_frozen BK275.out 6
          have hfz55_7 := blk_frozen BK275.out 7
          have hfz55_8 := blk_frozen BK275.out 8
          go_wp2_with (first | ((with_reducible refine gate_callee (f := 62) rfl ?_); refine goesL_ (some 15) rfl rfl Try.func62 (by kernel_rfl) rfl #[.string a0_0] rfl (by (try simp only [List.map_toArray, List.map_cons, List.map_nil]); first | done | rfl | (simp only [List.length_drop, List.length_take]; rfl)) ?_; (with_reducible refine (spec_token.calls k a0_0 true _ A7.out).mono ?_); rintro e w' ⟨rfl, ⟨nd, rfl⟩⟩; refine ⟨_, rfl, ?_⟩) | (go_at_call 62; (with_reducible refine (spec_token.calls k a0_1 true _ A9.out).mono ?_); rintro e w' ⟨rfl, ⟨nd, rfl⟩⟩) | (go_at_call 62; (with_reducible refine (spec_token.calls k a0_2 true _ A34.out).mono ?_); rintro e w' ⟨rfl, ⟨nd, rfl⟩⟩) | (go_at_call 63; (with_reducible refine (spec_quoted.calls k t276 (⟨#[47]⟩ : ByteArray) (⟨#[]⟩ : ByteArray) t282 _ A46.out).mono ?_); rintro e w' ⟨rfl, ⟨nd, rfl⟩⟩))
          go_meet
          case rel => exact ⟨_, (true), (by first | rfl | (simp; done) | (simp [*]; done) | (simp [Go.Proofs.YtfbllodbcmcndaaX.isEmpty_ne]; done)), H', ⟨by first | omega | exact Nat.le_refl _⟩, ⟨by (with_reducible repeat (first | refine blk_drewN ?_ _ | refine blk_drew ?_ | refine blk_alloc ?_ _)); exact BK275.out⟩, ⟨by repeat (first | (with_reducible first | exact HB.out | apply below_alloc | apply pw_below_drewN | apply below_drew1 | refine below_set ?_ GE275.out) | exact HB.out)⟩⟩
        ·
         rw [if_neg c45] at H
         have c45b0 : (t276.toList == a0_3.toList) = false := beq_eq_false_iff_ne.mpr c45
         have c45b1 : (t276.toList != a0_3.toList) = true := bne_iff_ne.mpr c45
         have H' := Aside0.mk H
         clear H
         have hcz56_0 : w6.cell? ⟨gb275, 0, none⟩ = some (.string a0_0) := (blk_cell BK275.out 0).trans rfl
         have hcz56_1 : w6.cell? ⟨gb275, 1, none⟩ = some (.string a0_1) := (blk_cell BK275.out 1).trans rfl
         have hcz56_2 : w6.cell? ⟨gb275, 2, none⟩ = some (.string a0_2) := (blk_cell BK275.out 2).trans rfl
         have hcz56_3 : w6.cell? ⟨gb275, 3, none⟩ = some (.string a0_3) := (blk_cell BK275.out 3).trans rfl
         have hcz56_4 : w6.cell? ⟨gb275, 4, none⟩ = some (.int .i64 a0_4) := (blk_cell BK275.out 4).trans rfl
         have hcz56_5 : w6.cell? ⟨gb275, 5, none⟩ = some (.int .i64 a0_5) := (blk_cell BK275.out 5).trans rfl
         have hcz56_6 : w6.cell? ⟨gb275, 6, none⟩ = some (.bool a0_6) := (blk_cell BK275.out 6).trans rfl
         have hcz56_7 : w6.cell? ⟨gb275, 7, none⟩ = some (.bool a0_7) := (blk_cell BK275.out 7).trans rfl
         have hcz56_8 : w6.cell? ⟨gb275, 8, none⟩ = some (.bool a0_8) := (blk_cell BK275.out 8).trans rfl
         have hfz56_0 := blk_frozen BK275.out 0
         have hfz56_1 := blk_frozen BK275.out 1
         have hfz56_2 := blk_frozen BK275.out 2
         have hfz56_3 := blk_frozen BK275.out 3
         have hfz56_4 := blk_frozen BK275.out 4
         have hfz56_5 := blk_frozen BK275.out 5
         have hfz56_6 := blk_frozen BK275.out 6
         have hfz56_7 := blk_frozen BK275.out 7
         have hfz56_8 := blk_frozen BK275.out 8
         go_wp2_with (first | ((with_reducible refine gate_callee (f := 62) rfl ?_); refine goesL_ (some 15) rfl rfl Try.func62 (by kernel_rfl) rfl #[.string a0_0] rfl (by (try simp only [List.map_toArray, List.map_cons, List.map_nil]); first | done | rfl | (simp only [List.length_drop, List.length_take]; rfl)) ?_; (with_reducible refine (spec_token.calls k a0_0 true _ A7.out).mono ?_); rintro e w' ⟨rfl, ⟨nd, rfl⟩⟩; refine ⟨_, rfl, ?_⟩) | (go_at_call 62; (with_reducible refine (spec_token.calls k a0_1 true _ A9.out).mono ?_); rintro e w' ⟨rfl, ⟨nd, rfl⟩⟩) | (go_at_call 62; (with_reducible refine (spec_token.calls k a0_2 true _ A34.out).mono ?_); rintro e w' ⟨rfl, ⟨nd, rfl⟩⟩))
         go_meet
         case rel => exact ⟨_, (true), (by first | rfl | (simp; done) | (simp [*]; done) | (simp [Go.Proofs.YtfbllodbcmcndaaX.isEmpty_ne]; done)), H', ⟨by first | omega | exact Nat.le_refl _⟩, ⟨by (with_reducible repeat (first | refine blk_drewN ?_ _ | refine blk_drew ?_ | refine blk_alloc ?_ _)); exact BK275.out⟩, ⟨by repeat (first | (with_reducible first | exact HB.out | apply below_alloc | apply pw_below_drewN | apply below_drew1 | refine below_set ?_ GE275.out) | exact HB.out)⟩⟩
       ·
        rw [if_neg c44] at H
        have c44b0 : (t277 == 1) = false := beq_eq_false_iff_ne.mpr c44
        have c44b1 : (t277 != 1) = true := bne_iff_ne.mpr c44
        have H' := Aside0.mk H
        clear H
        have hcz57_0 : w6.cell? ⟨gb275, 0, none⟩ = some (.string a0_0) := (blk_cell BK275.out 0).trans rfl
        have hcz57_1 : w6.cell? ⟨gb275, 1, none⟩ = some (.string a0_1) := (blk_cell BK275.out 1).trans rfl
        have hcz57_2 : w6.cell? ⟨gb275, 2, none⟩ = some (.string a0_2) := (blk_cell BK275.out 2).trans rfl
        have hcz57_3 : w6.cell? ⟨gb275, 3, none⟩ = some (.string a0_3) := (blk_cell BK275.out 3).trans rfl
        have hcz57_4 : w6.cell? ⟨gb275, 4, none⟩ = some (.int .i64 a0_4) := (blk_cell BK275.out 4).trans rfl
        have hcz57_5 : w6.cell? ⟨gb275, 5, none⟩ = some (.int .i64 a0_5) := (blk_cell BK275.out 5).trans rfl
        have hcz57_6 : w6.cell? ⟨gb275, 6, none⟩ = some (.bool a0_6) := (blk_cell BK275.out 6).trans rfl
        have hcz57_7 : w6.cell? ⟨gb275, 7, none⟩ = some (.bool a0_7) := (blk_cell BK275.out 7).trans rfl
        have hcz57_8 : w6.cell? ⟨gb275, 8, none⟩ = some (.bool a0_8) := (blk_cell BK275.out 8).trans rfl
        have hfz57_0 := blk_frozen BK275.out 0
        have hfz57_1 := blk_frozen BK275.out 1
        have hfz57_2 := blk_frozen BK275.out 2
        have hfz57_3 := blk_frozen BK275.out 3
        have hfz57_4 := blk_frozen BK275.out 4
        have hfz57_5 := blk_frozen BK275.out 5
        have hfz57_6 := blk_frozen BK275.out 6
        have hfz57_7 := blk_frozen BK275.out 7
        have hfz57_8 := blk_frozen BK275.out 8
        go_wp2_with (first | ((with_reducible refine gate_callee (f := 62) rfl ?_); refine goesL_ (some 15) rfl rfl Try.func62 (by kernel_rfl) rfl #[.string a0_0] rfl (by (try simp only [List.map_toArray, List.map_cons, List.map_nil]); first | done | rfl | (simp only [List.length_drop, List.length_take]; rfl)) ?_; (with_reducible refine (spec_token.calls k a0_0 true _ A7.out).mono ?_); rintro e w' ⟨rfl, ⟨nd, rfl⟩⟩; refine ⟨_, rfl, ?_⟩) | (go_at_call 62; (with_reducible refine (spec_token.calls k a0_1 true _ A9.out).mono ?_); rintro e w' ⟨rfl, ⟨nd, rfl⟩⟩) | (go_at_call 62; (with_reducible refine (spec_token.calls k a0_2 true _ A34.out).mono ?_); rintro e w' ⟨rfl, ⟨nd, rfl⟩⟩))
        go_meet
        case rel => exact ⟨_, (true), (by first | rfl | (simp; done) | (simp [*]; done) | (simp [Go.Proofs.YtfbllodbcmcndaaX.isEmpty_ne]; done)), H', ⟨by first | omega | exact Nat.le_refl _⟩, ⟨by (with_reducible repeat (first | refine blk_drewN ?_ _ | refine blk_drew ?_ | refine blk_alloc ?_ _)); exact BK275.out⟩, ⟨by repeat (first | (with_reducible first | exact HB.out | apply below_alloc | apply pw_below_drewN | apply below_drew1 | refine below_set ?_ GE275.out) | exact HB.out)⟩⟩
     ·
      replace c35 := Bool.eq_false_iff.mpr c35
      subst c35
      have H1 : (spec_CookieText.j0 k true a0_0 a0_1 a0_2 a0_3 a0_4 a0_5 a0_6 a0_7 a0_8) = some (r1, r2) := by rw [if_neg (show ¬ (false = true) by decide)] at H; exact H
      clear H
      have H := H1
      clear H1
      have H' := Aside0.mk H
      clear H
      have hcz58_0 : w6.cell? ⟨gb275, 0, none⟩ = some (.string a0_0) := (blk_cell BK275.out 0).trans rfl
      have hcz58_1 : w6.cell? ⟨gb275, 1, none⟩ = some (.string a0_1) := (blk_cell BK275.out 1).trans rfl
      have hcz58_2 : w6.cell? ⟨gb275, 2, none⟩ = some (.string a0_2) := (blk_cell BK275.out 2).trans rfl
      have hcz58_3 : w6.cell? ⟨gb275, 3, none⟩ = some (.string a0_3) := (blk_cell BK275.out 3).trans rfl
      have hcz58_4 : w6.cell? ⟨gb275, 4, none⟩ = some (.int .i64 a0_4) := (blk_cell BK275.out 4).trans rfl
      have hcz58_5 : w6.cell? ⟨gb275, 5, none⟩ = some (.int .i64 a0_5) := (blk_cell BK275.out 5).trans rfl
      have hcz58_6 : w6.cell? ⟨gb275, 6, none⟩ = some (.bool a0_6) := (blk_cell BK275.out 6).trans rfl
      have hcz58_7 : w6.cell? ⟨gb275, 7, none⟩ = some (.bool a0_7) := (blk_cell BK275.out 7).trans rfl
      have hcz58_8 : w6.cell? ⟨gb275, 8, none⟩ = some (.bool a0_8) := (blk_cell BK275.out 8).trans rfl
      have hfz58_0 := blk_frozen BK275.out 0
      have hfz58_1 := blk_frozen BK275.out 1
      have hfz58_2 := blk_frozen BK275.out 2
      have hfz58_3 := blk_frozen BK275.out 3
      have hfz58_4 := blk_frozen BK275.out 4
      have hfz58_5 := blk_frozen BK275.out 5
      have hfz58_6 := blk_frozen BK275.out 6
      have hfz58_7 := blk_frozen BK275.out 7
      have hfz58_8 := blk_frozen BK275.out 8
      go_wp2_with (first | ((with_reducible refine gate_callee (f := 62) rfl ?_); refine goesL_ (some 15) rfl rfl Try.func62 (by kernel_rfl) rfl #[.string a0_0] rfl (by (try simp only [List.map_toArray, List.map_cons, List.map_nil]); first | done | rfl | (simp only [List.length_drop, List.length_take]; rfl)) ?_; (with_reducible refine (spec_token.calls k a0_0 true _ A7.out).mono ?_); rintro e w' ⟨rfl, ⟨nd, rfl⟩⟩; refine ⟨_, rfl, ?_⟩) | (go_at_call 62; (with_reducible refine (spec_token.calls k a0_1 true _ A9.out).mono ?_); rintro e w' ⟨rfl, ⟨nd, rfl⟩⟩) | (go_at_call 62; (with_reducible refine (spec_token.calls k a0_2 false _ A34.out).mono ?_); rintro e w' ⟨rfl, ⟨nd, rfl⟩⟩))
      go_meet
      case rel => exact ⟨_, (true), (by first | rfl | (simp; done) | (simp [*]; done) | (simp [Go.Proofs.YtfbllodbcmcndaaX.isEmpty_ne]; done)), H', ⟨by first | omega | exact Nat.le_refl _⟩, ⟨by (with_reducible repeat (first | refine blk_drewN ?_ _ | refine blk_drew ?_ | refine blk_alloc ?_ _)); exact BK275.out⟩, ⟨by repeat (first | (with_reducible first | exact HB.out | apply below_alloc | apply pw_below_drewN | apply below_drew1 | refine below_set ?_ GE275.out) | exact HB.out)⟩⟩
   ·
    replace c10 := Bool.eq_false_iff.mpr c10
    subst c10
    have H1 : (spec_CookieText.j0 k true a0_0 a0_1 a0_2 a0_3 a0_4 a0_5 a0_6 a0_7 a0_8) = some (r1, r2) := by rw [if_neg (show ¬ (false = true) by decide)] at H; exact H
    clear H
    have H := H1
    clear H1
    have H' := Aside0.mk H
    clear H
    have hcz59_0 : w6.cell? ⟨gb275, 0, none⟩ = some (.string a0_0) := (blk_cell BK275.out 0).trans rfl
    have hcz59_1 : w6.cell? ⟨gb275, 1, none⟩ = some (.string a0_1) := (blk_cell BK275.out 1).trans rfl
    have hcz59_2 : w6.cell? ⟨gb275, 2, none⟩ = some (.string a0_2) := (blk_cell BK275.out 2).trans rfl
    have hcz59_3 : w6.cell? ⟨gb275, 3, none⟩ = some (.string a0_3) := (blk_cell BK275.out 3).trans rfl
    have hcz59_4 : w6.cell? ⟨gb275, 4, none⟩ = some (.int .i64 a0_4) := (blk_cell BK275.out 4).trans rfl
    have hcz59_5 : w6.cell? ⟨gb275, 5, none⟩ = some (.int .i64 a0_5) := (blk_cell BK275.out 5).trans rfl
    have hcz59_6 : w6.cell? ⟨gb275, 6, none⟩ = some (.bool a0_6) := (blk_cell BK275.out 6).trans rfl
    have hcz59_7 : w6.cell? ⟨gb275, 7, none⟩ = some (.bool a0_7) := (blk_cell BK275.out 7).trans rfl
    have hcz59_8 : w6.cell? ⟨gb275, 8, none⟩ = some (.bool a0_8) := (blk_cell BK275.out 8).trans rfl
    have hfz59_0 := blk_frozen BK275.out 0
    have hfz59_1 := blk_frozen BK275.out 1
    have hfz59_2 := blk_frozen BK275.out 2
    have hfz59_3 := blk_frozen BK275.out 3
    have hfz59_4 := blk_frozen BK275.out 4
    have hfz59_5 := blk_frozen BK275.out 5
    have hfz59_6 := blk_frozen BK275.out 6
    have hfz59_7 := blk_frozen BK275.out 7
    have hfz59_8 := blk_frozen BK275.out 8
    go_wp2_with (first | ((with_reducible refine gate_callee (f := 62) rfl ?_); refine goesL_ (some 15) rfl rfl Try.func62 (by kernel_rfl) rfl #[.string a0_0] rfl (by (try simp only [List.map_toArray, List.map_cons, List.map_nil]); first | done | rfl | (simp only [List.length_drop, List.length_take]; rfl)) ?_; (with_reducible refine (spec_token.calls k a0_0 true _ A7.out).mono ?_); rintro e w' ⟨rfl, ⟨nd, rfl⟩⟩; refine ⟨_, rfl, ?_⟩) | (go_at_call 62; (with_reducible refine (spec_token.calls k a0_1 false _ A9.out).mono ?_); rintro e w' ⟨rfl, ⟨nd, rfl⟩⟩))
    go_meet
    case rel => exact ⟨_, (true), (by first | rfl | (simp; done) | (simp [*]; done) | (simp [Go.Proofs.YtfbllodbcmcndaaX.isEmpty_ne]; done)), H', ⟨by first | omega | exact Nat.le_refl _⟩, ⟨by (with_reducible repeat (first | refine blk_drewN ?_ _ | refine blk_drew ?_ | refine blk_alloc ?_ _)); exact BK275.out⟩, ⟨by repeat (first | (with_reducible first | exact HB.out | apply below_alloc | apply pw_below_drewN | apply below_drew1 | refine below_set ?_ GE275.out) | exact HB.out)⟩⟩
  ·
   replace c8 := Bool.eq_false_iff.mpr c8
   subst c8
   have H1 : (spec_CookieText.j0 k true a0_0 a0_1 a0_2 a0_3 a0_4 a0_5 a0_6 a0_7 a0_8) = some (r1, r2) := by rw [if_neg (show ¬ (false = true) by decide)] at H; exact H
   clear H
   have H := H1
   clear H1
   have H' := Aside0.mk H
   clear H
   have hcz60_0 : w6.cell? ⟨gb275, 0, none⟩ = some (.string a0_0) := (blk_cell BK275.out 0).trans rfl
   have hcz60_1 : w6.cell? ⟨gb275, 1, none⟩ = some (.string a0_1) := (blk_cell BK275.out 1).trans rfl
   have hcz60_2 : w6.cell? ⟨gb275, 2, none⟩ = some (.string a0_2) := (blk_cell BK275.out 2).trans rfl
   have hcz60_3 : w6.cell? ⟨gb275, 3, none⟩ = some (.string a0_3) := (blk_cell BK275.out 3).trans rfl
   have hcz60_4 : w6.cell? ⟨gb275, 4, none⟩ = some (.int .i64 a0_4) := (blk_cell BK275.out 4).trans rfl
   have hcz60_5 : w6.cell? ⟨gb275, 5, none⟩ = some (.int .i64 a0_5) := (blk_cell BK275.out 5).trans rfl
   have hcz60_6 : w6.cell? ⟨gb275, 6, none⟩ = some (.bool a0_6) := (blk_cell BK275.out 6).trans rfl
   have hcz60_7 : w6.cell? ⟨gb275, 7, none⟩ = some (.bool a0_7) := (blk_cell BK275.out 7).trans rfl
   have hcz60_8 : w6.cell? ⟨gb275, 8, none⟩ = some (.bool a0_8) := (blk_cell BK275.out 8).trans rfl
   have hfz60_0 := blk_frozen BK275.out 0
   have hfz60_1 := blk_frozen BK275.out 1
   have hfz60_2 := blk_frozen BK275.out 2
   have hfz60_3 := blk_frozen BK275.out 3
   have hfz60_4 := blk_frozen BK275.out 4
   have hfz60_5 := blk_frozen BK275.out 5
   have hfz60_6 := blk_frozen BK275.out 6
   have hfz60_7 := blk_frozen BK275.out 7
   have hfz60_8 := blk_frozen BK275.out 8
   go_wp2_with (first | ((with_reducible refine gate_callee (f := 62) rfl ?_); refine goesL_ (some 15) rfl rfl Try.func62 (by kernel_rfl) rfl #[.string a0_0] rfl (by (try simp only [List.map_toArray, List.map_cons, List.map_nil]); first | done | rfl | (simp only [List.length_drop, List.length_take]; rfl)) ?_; (with_reducible refine (spec_token.calls k a0_0 false _ A7.out).mono ?_); rintro e w' ⟨rfl, ⟨nd, rfl⟩⟩; refine ⟨_, rfl, ?_⟩))
   go_meet
   case rel => exact ⟨_, (true), (by first | rfl | (simp; done) | (simp [*]; done) | (simp [Go.Proofs.YtfbllodbcmcndaaX.isEmpty_ne]; done)), H', ⟨by first | omega | exact Nat.le_refl _⟩, ⟨by (with_reducible repeat (first | refine blk_drewN ?_ _ | refine blk_drew ?_ | refine blk_alloc ?_ _)); exact BK275.out⟩, ⟨by repeat (first | (with_reducible first | exact HB.out | apply below_alloc | apply pw_below_drewN | apply below_drew1 | refine below_set ?_ GE275.out) | exact HB.out)⟩⟩
 case rest =>
  clear HC3
  try clear c1
  try clear c2
  try clear p2
  try clear c3
  try clear c4
  try clear c5
  try clear c6
  try clear c8
  try clear c10
  try clear c11
  try clear c11b0
  try clear c11b1
  try clear c20
  try clear c20b0
  try clear c20b1
  try clear c21
  try clear c21b0
  try clear c21b1
  try clear c23
  try clear c23b0
  try clear c23b1
  try clear c26
  try clear c26b0
  try clear c28
  try clear c28b0
  try clear c35
  try clear c36
  try clear c36b0
  try clear c36b1
  try clear c37
  try clear c39
  try clear c39b0
  try clear c41
  try clear c41b0
  try clear c44
  try clear c44b0
  try clear c44b1
  try clear c45
  try clear c45b0
  try clear c45b1
  try clear c47
  try clear c47b0
  try clear c47b1
  try clear c48
  try clear c50
  try clear c50b0
  try clear c52
  try clear c52b0
  try clear hcz27_1
  try clear hcz27_2
  try clear hcz27_3
  try clear hcz27_4
  try clear hcz27_5
  try clear hcz27_6
  try clear hcz27_7
  try clear hcz27_8
  try clear hcz29_0
  try clear hcz29_1
  try clear hcz29_2
  try clear hcz29_3
  try clear hcz29_4
  try clear hcz29_5
  try clear hcz29_6
  try clear hcz29_7
  try clear hcz29_8
  try clear hcz30_0
  try clear hcz30_1
  try clear hcz30_2
  try clear hcz30_3
  try clear hcz30_4
  try clear hcz30_5
  try clear hcz30_6
  try clear hcz30_7
  try clear hcz30_8
  try clear hcz31_0
  try clear hcz31_1
  try clear hcz31_2
  try clear hcz31_3
  try clear hcz31_4
  try clear hcz31_5
  try clear hcz31_6
  try clear hcz31_7
  try clear hcz31_8
  try clear hcz32_0
  try clear hcz32_1
  try clear hcz32_2
  try clear hcz32_3
  try clear hcz32_4
  try clear hcz32_5
  try clear hcz32_6
  try clear hcz32_7
  try clear hcz32_8
  try clear hcz33_0
  try clear hcz33_1
  try clear hcz33_2
  try clear hcz33_3
  try clear hcz33_4
  try clear hcz33_5
  try clear hcz33_6
  try clear hcz33_7
  try clear hcz33_8
  try clear hcz38_0
  try clear hcz38_1
  try clear hcz38_2
  try clear hcz38_3
  try clear hcz38_4
  try clear hcz38_5
  try clear hcz38_6
  try clear hcz38_7
  try clear hcz38_8
  try clear hcz40_0
  try clear hcz40_1
  try clear hcz40_2
  try clear hcz40_3
  try clear hcz40_4
  try clear hcz40_5
  try clear hcz40_6
  try clear hcz40_7
  try clear hcz40_8
  try clear hcz42_0
  try clear hcz42_1
  try clear hcz42_2
  try clear hcz42_3
  try clear hcz42_4
  try clear hcz42_5
  try clear hcz42_6
  try clear hcz42_7
  try clear hcz42_8
  try clear hcz43_0
  try clear hcz43_1
  try clear hcz43_2
  try clear hcz43_3
  try clear hcz43_4
  try clear hcz43_5
  try clear hcz43_6
  try clear hcz43_7
  try clear hcz43_8
  try clear hcz49_0
  try clear hcz49_1
  try clear hcz49_2
  try clear hcz49_3
  try clear hcz49_4
  try clear hcz49_5
  try clear hcz49_6
  try clear hcz49_7
  try clear hcz49_8
  try clear hcz51_0
  try clear hcz51_1
  try clear hcz51_2
  try clear hcz51_3
  try clear hcz51_4
  try clear hcz51_5
  try clear hcz51_6
  try clear hcz51_7
  try clear hcz51_8
  try clear hcz53_0
  try clear hcz53_1
  try clear hcz53_2
  try clear hcz53_3
  try clear hcz53_4
  try clear hcz53_5
  try clear hcz53_6
  try clear hcz53_7
  try clear hcz53_8
  try clear hcz54_0
  try clear hcz54_1
  try clear hcz54_2
  try clear hcz54_3
  try clear hcz54_4
  try clear hcz54_5
  try clear hcz54_6
  try clear hcz54_7
  try clear hcz54_8
  try clear hcz55_0
  try clear hcz55_1
  try clear hcz55_2
  try clear hcz55_3
  try clear hcz55_4
  try clear hcz55_5
  try clear hcz55_6
  try clear hcz55_7
  try clear hcz55_8
  try clear hcz56_0
  try clear hcz56_1
  try clear hcz56_2
  try clear hcz56_3
  try clear hcz56_4
  try clear hcz56_5
  try clear hcz56_6
  try clear hcz56_7
  try clear hcz56_8
  try clear hcz57_0
  try clear hcz57_1
  try clear hcz57_2
  try clear hcz57_3
  try clear hcz57_4
  try clear hcz57_5
  try clear hcz57_6
  try clear hcz57_7
  try clear hcz57_8
  try clear hcz58_0
  try clear hcz58_1
  try clear hcz58_2
  try clear hcz58_3
  try clear hcz58_4
  try clear hcz58_5
  try clear hcz58_6
  try clear hcz58_7
  try clear hcz58_8
  try clear hcz59_0
  try clear hcz59_1
  try clear hcz59_2
  try clear hcz59_3
  try clear hcz59_4
  try clear hcz59_5
  try clear hcz59_6
  try clear hcz59_7
  try clear hcz59_8
  try clear hcz60_0
  try clear hcz60_1
  try clear hcz60_2
  try clear hcz60_3
  try clear hcz60_4
  try clear hcz60_5
  try clear hcz60_6
  try clear hcz60_7
  try clear hcz60_8
  try clear hfz27_0
  try clear hfz27_1
  try clear hfz27_2
  try clear hfz27_3
  try clear hfz27_4
  try clear hfz27_5
  try clear hfz27_6
  try clear hfz27_7
  try clear hfz27_8
  try clear hfz29_0
  try clear hfz29_1
  try clear hfz29_2
  try clear hfz29_3
  try clear hfz29_4
  try clear hfz29_5
  try clear hfz29_6
  try clear hfz29_7
  try clear hfz29_8
  try clear hfz30_0
  try clear hfz30_1
  try clear hfz30_2
  try clear hfz30_3
  try clear hfz30_4
  try clear hfz30_5
  try clear hfz30_6
  try clear hfz30_7
  try clear hfz30_8
  try clear hfz31_0
  try clear hfz31_1
  try clear hfz31_2
  try clear hfz31_3
  try clear hfz31_4
  try clear hfz31_5
  try clear hfz31_6
  try clear hfz31_7
  try clear hfz31_8
  try clear hfz32_0
  try clear hfz32_1
  try clear hfz32_2
  try clear hfz32_3
  try clear hfz32_4
  try clear hfz32_5
  try clear hfz32_6
  try clear hfz32_7
  try clear hfz32_8
  try clear hfz33_0
  try clear hfz33_1
  try clear hfz33_2
  try clear hfz33_3
  try clear hfz33_4
  try clear hfz33_5
  try clear hfz33_6
  try clear hfz33_7
  try clear hfz33_8
  try clear hfz38_0
  try clear hfz38_1
  try clear hfz38_2
  try clear hfz38_3
  try clear hfz38_4
  try clear hfz38_5
  try clear hfz38_6
  try clear hfz38_7
  try clear hfz38_8
  try clear hfz40_0
  try clear hfz40_1
  try clear hfz40_2
  try clear hfz40_3
  try clear hfz40_4
  try clear hfz40_5
  try clear hfz40_6
  try clear hfz40_7
  try clear hfz40_8
  try clear hfz42_0
  try clear hfz42_1
  try clear hfz42_2
  try clear hfz42_3
  try clear hfz42_4
  try clear hfz42_5
  try clear hfz42_6
  try clear hfz42_7
  try clear hfz42_8
  try clear hfz43_0
  try clear hfz43_1
  try clear hfz43_2
  try clear hfz43_3
  try clear hfz43_4
  try clear hfz43_5
  try clear hfz43_6
  try clear hfz43_7
  try clear hfz43_8
  try clear hfz49_0
  try clear hfz49_1
  try clear hfz49_2
  try clear hfz49_3
  try clear hfz49_4
  try clear hfz49_5
  try clear hfz49_6
  try clear hfz49_7
  try clear hfz49_8
  try clear hfz51_0
  try clear hfz51_1
  try clear hfz51_2
  try clear hfz51_3
  try clear hfz51_4
  try clear hfz51_5
  try clear hfz51_6
  try clear hfz51_7
  try clear hfz51_8
  try clear hfz53_0
  try clear hfz53_1
  try clear hfz53_2
  try clear hfz53_3
  try clear hfz53_4
  try clear hfz53_5
  try clear hfz53_6
  try clear hfz53_7
  try clear hfz53_8
  try clear hfz54_0
  try clear hfz54_1
  try clear hfz54_2
  try clear hfz54_3
  try clear hfz54_4
  try clear hfz54_5
  try clear hfz54_6
  try clear hfz54_7
  try clear hfz54_8
  try clear hfz55_0
  try clear hfz55_1
  try clear hfz55_2
  try clear hfz55_3
  try clear hfz55_4
  try clear hfz55_5
  try clear hfz55_6
  try clear hfz55_7
  try clear hfz55_8
  try clear hfz56_0
  try clear hfz56_1
  try clear hfz56_2
  try clear hfz56_3
  try clear hfz56_4
  try clear hfz56_5
  try clear hfz56_6
  try clear hfz56_7
  try clear hfz56_8
  try clear hfz57_0
  try clear hfz57_1
  try clear hfz57_2
  try clear hfz57_3
  try clear hfz57_4
  try clear hfz57_5
  try clear hfz57_6
  try clear hfz57_7
  try clear hfz57_8
  try clear hfz58_0
  try clear hfz58_1
  try clear hfz58_2
  try clear hfz58_3
  try clear hfz58_4
  try clear hfz58_5
  try clear hfz58_6
  try clear hfz58_7
  try clear hfz58_8
  try clear hfz59_0
  try clear hfz59_1
  try clear hfz59_2
  try clear hfz59_3
  try clear hfz59_4
  try clear hfz59_5
  try clear hfz59_6
  try clear hfz59_7
  try clear hfz59_8
  try clear hfz60_0
  try clear hfz60_1
  try clear hfz60_2
  try clear hfz60_3
  try clear hfz60_4
  try clear hfz60_5
  try clear hfz60_6
  try clear hfz60_7
  try clear hfz60_8
  obtain ⟨kq, x73_2, rfl, HA, HJ2, BK275, HB⟩ := hcut
  cases kq with
  | zero => exact absurd HA.out (by simp [spec_CookieText.j0])
  | succ kj2 =>
   have H := HA.out
   clear HA
   simp only [spec_CookieText.j0] at H
   by_cases c61 : x73_2 = true
   ·
    subst c61
    have H1 : (some ((⟨#[]⟩ : ByteArray), 2)) = some (r1, r2) := by rw [if_pos rfl] at H; exact H
    clear H
    have H := H1
    clear H1
    simp only [Option.some.injEq, Prod.mk.injEq] at H
    obtain ⟨rfl, rfl⟩ := H
    go_wp2
    go_ret2
    exact ⟨by first | rfl | (simp [errW_none, errW_some] <;> rfl) | (simp [*, errW_none, errW_some] <;> rfl), by repeat (first | (with_reducible first | exact HB.out | apply below_alloc | apply pw_below_drewN | apply below_drew1 | refine below_set ?_ GE275.out) | exact HB.out)⟩
   ·
    replace c61 := Bool.eq_false_iff.mpr c61
    subst c61
    have H1 : (if a0_0.size + 1 ≤ 9223372036854775807 then (if a0_0.size + 1 + a0_1.size ≤ 9223372036854775807 then (if a0_4 > 0 then ((spec_decimal.f kj2 a0_4).bind fun t283 => (if 10 + t283.size ≤ 9223372036854775807 then (if a0_0.size + 1 + a0_1.size + (10 + t283.size) ≤ 9223372036854775807 then (spec_CookieText.j1 kj2 (((a0_0 ++ (⟨#[61]⟩ : ByteArray)) ++ a0_1) ++ ((⟨#[59, 32, 109, 97, 120, 45, 97, 103, 101, 61]⟩ : ByteArray) ++ t283)) a0_0 a0_1 a0_2 a0_3 a0_4 a0_5 a0_6 a0_7 a0_8) else (none)) else (none))) else (spec_CookieText.j1 kj2 ((a0_0 ++ (⟨#[61]⟩ : ByteArray)) ++ a0_1) a0_0 a0_1 a0_2 a0_3 a0_4 a0_5 a0_6 a0_7 a0_8)) else (none)) else (none)) = some (r1, r2) := by rw [if_neg (show ¬ (false = true) by decide)] at H; exact H
    clear H
    have H := H1
    clear H1
    by_cases c62 : a0_0.size + 1 ≤ 9223372036854775807
    ·
     rw [if_pos c62] at H
     have c62b0 := eq_true c62
     have c62b1 : decide (a0_0.size + 1 ≤ 9223372036854775807) = true := decide_eq_true c62
     try have c62b2 : (9223372036854775807 < a0_0.size + 1) = False := eq_false (Nat.not_lt.2 c62)
     by_cases c63 : a0_0.size + 1 + a0_1.size ≤ 9223372036854775807
     ·
      rw [if_pos c63] at H
      have c63b0 := eq_true c63
      have c63b1 : decide (a0_0.size + 1 + a0_1.size ≤ 9223372036854775807) = true := decide_eq_true c63
      try have c63b2 : (9223372036854775807 < a0_0.size + 1 + a0_1.size) = False := eq_false (Nat.not_lt.2 c63)
      have HC64 := Aside0.mk H
      clear H
      have hcz65_0 : wc.cell? ⟨gb275, 0, none⟩ = some (.string a0_0) := (blk_cell BK275.out 0).trans rfl
      have hcz65_1 : wc.cell? ⟨gb275, 1, none⟩ = some (.string a0_1) := (blk_cell BK275.out 1).trans rfl
      have hcz65_2 : wc.cell? ⟨gb275, 2, none⟩ = some (.string a0_2) := (blk_cell BK275.out 2).trans rfl
      have hcz65_3 : wc.cell? ⟨gb275, 3, none⟩ = some (.string a0_3) := (blk_cell BK275.out 3).trans rfl
      have hcz65_4 : wc.cell? ⟨gb275, 4, none⟩ = some (.int .i64 a0_4) := (blk_cell BK275.out 4).trans rfl
      have hcz65_5 : wc.cell? ⟨gb275, 5, none⟩ = some (.int .i64 a0_5) := (blk_cell BK275.out 5).trans rfl
      have hcz65_6 : wc.cell? ⟨gb275, 6, none⟩ = some (.bool a0_6) := (blk_cell BK275.out 6).trans rfl
      have hcz65_7 : wc.cell? ⟨gb275, 7, none⟩ = some (.bool a0_7) := (blk_cell BK275.out 7).trans rfl
      have hcz65_8 : wc.cell? ⟨gb275, 8, none⟩ = some (.bool a0_8) := (blk_cell BK275.out 8).trans rfl
      have hfz65_0 := blk_frozen BK275.out 0
      have hfz65_1 := blk_frozen BK275.out 1
      have hfz65_2 := blk_frozen BK275.out 2
      have hfz65_3 := blk_frozen BK275.out 3
      have hfz65_4 := blk_frozen BK275.out 4
      have hfz65_5 := blk_frozen BK275.out 5
      have hfz65_6 := blk_frozen BK275.out 6
      have hfz65_7 := blk_frozen BK275.out 7
      have hfz65_8 := blk_frozen BK275.out 8
      go_upto_if 82 with (fail)
      go_cut [6] (fun v6 wc => ∃ (kq : Nat) (x6_63 : ByteArray), v6 = .string x6_63 ∧ Aside0 (spec_CookieText.j1 kq x6_63 a0_0 a0_1 a0_2 a0_3 a0_4 a0_5 a0_6 a0_7 a0_8 = some (r1, r2)) ∧ Aside0 (kq ≤ kj2) ∧ Aside0 (wc.heap[gb275]? = some (.cells #[.string a0_0, .string a0_1, .string a0_2, .string a0_3, .int .i64 a0_4, .int .i64 a0_5, .bool a0_6, .bool a0_7, .bool a0_8] 60 (0, 0))) ∧ Aside0 (Below w.heap.size w wc))
      case first =>
       have H := HC64.out
       clear HC64
       by_cases c66 : a0_4 > 0
       ·
        rw [if_pos c66] at H
        have c66b0 : decide (0 < a0_4) = true := decide_eq_true c66
        clear c66
        (first | rw [c66b0] | (simp only [i64_w, i32_w]; rw [c66b0]) | (rw [Go.Proofs.YtfbllodbcmcndaaX.isEmpty_eq]; rw [c66b0]) | skip)
        replace H := Option.bind_eq_some_iff.mp H
        obtain ⟨t283, A670, H⟩ := H
        replace H : (if 10 + t283.size ≤ 9223372036854775807 then (if a0_0.size + 1 + a0_1.size + (10 + t283.size) ≤ 9223372036854775807 then (spec_CookieText.j1 kj2 (((a0_0 ++ (⟨#[61]⟩ : ByteArray)) ++ a0_1) ++ ((⟨#[59, 32, 109, 97, 120, 45, 97, 103, 101, 61]⟩ : ByteArray) ++ t283)) a0_0 a0_1 a0_2 a0_3 a0_4 a0_5 a0_6 a0_7 a0_8) else (none)) else (none)) = some (r1, r2) := H
        have A67 := Aside0.mk A670
        clear A670
        by_cases c68 : 10 + t283.size ≤ 9223372036854775807
        ·
         rw [if_pos c68] at H
         have c68b0 := eq_true c68
         have c68b1 : decide (10 + t283.size ≤ 9223372036854775807) = true := decide_eq_true c68
         try have c68b2 : (9223372036854775807 < 10 + t283.size) = False := eq_false (Nat.not_lt.2 c68)
         by_cases c69 : a0_0.size + 1 + a0_1.size + (10 + t283.size) ≤ 9223372036854775807
         ·
          rw [if_pos c69] at H
          have c69b0 := eq_true c69
          have c69b1 : decide (a0_0.size + 1 + a0_1.size + (10 + t283.size) ≤ 9223372036854775807) = true := decide_eq_true c69
          try have c69b2 : (9223372036854775807 < a0_0.size + 1 + a0_1.size + (10 + t283.size)) = False := eq_false (Nat.not_lt.2 c69)
          have H' := Aside0.mk H
          clear H
          have hcz70_0 : wc.cell? ⟨gb275, 0, none⟩ = some (.string a0_0) := (blk_cell BK275.out 0).trans rfl
          have hcz70_1 : wc.cell? ⟨gb275, 1, none⟩ = some (.string a0_1) := (blk_cell BK275.out 1).trans rfl
          have hcz70_2 : wc.cell? ⟨gb275, 2, none⟩ = some (.string a0_2) := (blk_cell BK275.out 2).trans rfl
          have hcz70_3 : wc.cell? ⟨gb275, 3, none⟩ = some (.string a0_3) := (blk_cell BK275.out 3).trans rfl
          have hcz70_4 : wc.cell? ⟨gb275, 4, none⟩ = some (.int .i64 a0_4) := (blk_cell BK275.out 4).trans rfl
          have hcz70_5 : wc.cell? ⟨gb275, 5, none⟩ = some (.int .i64 a0_5) := (blk_cell BK275.out 5).trans rfl
          have hcz70_6 : wc.cell? ⟨gb275, 6, none⟩ = some (.bool a0_6) := (blk_cell BK275.out 6).trans rfl
          have hcz70_7 : wc.cell? ⟨gb275, 7, none⟩ = some (.bool a0_7) := (blk_cell BK275.out 7).trans rfl
          have hcz70_8 : wc.cell? ⟨gb275, 8, none⟩ = some (.bool a0_8) := (blk_cell BK275.out 8).trans rfl
          have hfz70_0 := blk_frozen BK275.out 0
          have hfz70_1 := blk_frozen BK275.out 1
          have hfz70_2 := blk_frozen BK275.out 2
          have hfz70_3 := blk_frozen BK275.out 3
          have hfz70_4 := blk_frozen BK275.out 4
          have hfz70_5 := blk_frozen BK275.out 5
          have hfz70_6 := blk_frozen BK275.out 6
          have hfz70_7 := blk_frozen BK275.out 7
          have hfz70_8 := blk_frozen BK275.out 8
          go_wp2_with (first | ((with_reducible refine gate_callee (f := 64) rfl ?_); refine goesL_ (some 86) rfl rfl Try.func64 (by kernel_rfl) rfl #[.int .i64 a0_4] rfl (by (try simp only [List.map_toArray, List.map_cons, List.map_nil]); first | done | rfl | (simp only [List.length_drop, List.length_take]; rfl)) ?_; (with_reducible refine (spec_decimal.calls kj2 a0_4 t283 _ A67.out).mono ?_); rintro e w71 ⟨rfl, hb⟩; refine ⟨_, rfl, ?_⟩; have n0_ := Aside0.mk (blk_below (g := gb275) (o := .cells #[.string a0_0, .string a0_1, .string a0_2, .string a0_3, .int .i64 a0_4, .int .i64 a0_5, .bool a0_6, .bool a0_7, .bool a0_8] 60 (0, 0)) (by (with_reducible repeat (first | refine blk_drewN ?_ _ | refine blk_drew ?_ | refine blk_alloc ?_ _)); exact BK275.out) hb); have n1_ := Aside0.mk (below_step (by repeat (first | (with_reducible first | exact HB.out | apply below_alloc | apply pw_below_drewN | apply below_drew1 | refine below_set ?_ GE275.out) | exact HB.out)) hb); clear BK275; clear HB; have BK275 := n0_; have HB := n1_; clear n0_ n1_; (try clear hb); (try clear hb2); (try clear hk); (try clear hi)))
          go_meet
          case rel => exact ⟨_, (((a0_0 ++ (⟨#[61]⟩ : ByteArray)) ++ a0_1) ++ ((⟨#[59, 32, 109, 97, 120, 45, 97, 103, 101, 61]⟩ : ByteArray) ++ t283)), (by first | rfl | (simp; done) | (simp [*]; done) | (simp [Go.Proofs.YtfbllodbcmcndaaX.isEmpty_ne]; done)), H', ⟨by have := HJ2.out; first | omega | exact Nat.le_refl _⟩, ⟨by (with_reducible repeat (first | refine blk_drewN ?_ _ | refine blk_drew ?_ | refine blk_alloc ?_ _)); exact BK275.out⟩, ⟨by repeat (first | (with_reducible first | exact HB.out | apply below_alloc | apply pw_below_drewN | apply below_drew1 | refine below_set ?_ GE275.out) | exact HB.out)⟩⟩
         ·
          rw [if_neg c69] at H
          exact absurd H (by simp)
        ·
         rw [if_neg c68] at H
         exact absurd H (by simp)
       ·
        rw [if_neg c66] at H
        have c66b0 : decide (0 < a0_4) = false := decide_eq_false c66
        clear c66
        (first | rw [c66b0] | (simp only [i64_w, i32_w]; rw [c66b0]) | (rw [Go.Proofs.YtfbllodbcmcndaaX.isEmpty_eq]; rw [c66b0]) | skip)
        have H' := Aside0.mk H
        clear H
        go_wp2
        go_meet
        case rel => exact ⟨_, ((a0_0 ++ (⟨#[61]⟩ : ByteArray)) ++ a0_1), (by first | rfl | (simp; done) | (simp [*]; done) | (simp [Go.Proofs.YtfbllodbcmcndaaX.isEmpty_ne]; done)), H', ⟨by have := HJ2.out; first | omega | exact Nat.le_refl _⟩, ⟨by (with_reducible repeat (first | refine blk_drewN ?_ _ | refine blk_drew ?_ | refine blk_alloc ?_ _)); exact BK275.out⟩, ⟨by repeat (first | (with_reducible first | exact HB.out | apply below_alloc | apply pw_below_drewN | apply below_drew1 | refine below_set ?_ GE275.out) | exact HB.out)⟩⟩
      case rest =>
       clear HC64
       try clear c1
       try clear c2
       try clear p2
       try clear c3
       try clear c4
       try clear c5
       try clear c6
       try clear c8
       try clear c10
       try clear c11
       try clear c11b0
       try clear c11b1
       try clear c20
       try clear c20b0
       try clear c20b1
       try clear c21
       try clear c21b0
       try clear c21b1
       try clear c23
       try clear c23b0
       try clear c23b1
       try clear c26
       try clear c26b0
       try clear c28
       try clear c28b0
       try clear c35
       try clear c36
       try clear c36b0
       try clear c36b1
       try clear c37
       try clear c39
       try clear c39b0
       try clear c41
       try clear c41b0
       try clear c44
       try clear c44b0
       try clear c44b1
       try clear c45
       try clear c45b0
       try clear c45b1
       try clear c47
       try clear c47b0
       try clear c47b1
       try clear c48
       try clear c50
       try clear c50b0
       try clear c52
       try clear c52b0
       try clear c61
       try clear c62
       try clear c62b0
       try clear c62b1
       try clear c62b2
       try clear c63
       try clear c63b0
       try clear c63b1
       try clear c63b2
       try clear c64
       try clear c66
       try clear c66b0
       try clear c68
       try clear c68b0
       try clear c68b1
       try clear c68b2
       try clear c69
       try clear c69b0
       try clear c69b1
       try clear c69b2
       try clear hcz27_1
       try clear hcz27_2
       try clear hcz27_3
       try clear hcz27_4
       try clear hcz27_5
       try clear hcz27_6
       try clear hcz27_7
       try clear hcz27_8
       try clear hcz29_0
       try clear hcz29_1
       try clear hcz29_2
       try clear hcz29_3
       try clear hcz29_4
       try clear hcz29_5
       try clear hcz29_6
       try clear hcz29_7
       try clear hcz29_8
       try clear hcz30_0
       try clear hcz30_1
       try clear hcz30_2
       try clear hcz30_3
       try clear hcz30_4
       try clear hcz30_5
       try clear hcz30_6
       try clear hcz30_7
       try clear hcz30_8
       try clear hcz31_0
       try clear hcz31_1
       try clear hcz31_2
       try clear hcz31_3
       try clear hcz31_4
       try clear hcz31_5
       try clear hcz31_6
       try clear hcz31_7
       try clear hcz31_8
       try clear hcz32_0
       try clear hcz32_1
       try clear hcz32_2
       try clear hcz32_3
       try clear hcz32_4
       try clear hcz32_5
       try clear hcz32_6
       try clear hcz32_7
       try clear hcz32_8
       try clear hcz33_0
       try clear hcz33_1
       try clear hcz33_2
       try clear hcz33_3
       try clear hcz33_4
       try clear hcz33_5
       try clear hcz33_6
       try clear hcz33_7
       try clear hcz33_8
       try clear hcz38_0
       try clear hcz38_1
       try clear hcz38_2
       try clear hcz38_3
       try clear hcz38_4
       try clear hcz38_5
       try clear hcz38_6
       try clear hcz38_7
       try clear hcz38_8
       try clear hcz40_0
       try clear hcz40_1
       try clear hcz40_2
       try clear hcz40_3
       try clear hcz40_4
       try clear hcz40_5
       try clear hcz40_6
       try clear hcz40_7
       try clear hcz40_8
       try clear hcz42_0
       try clear hcz42_1
       try clear hcz42_2
       try clear hcz42_3
       try clear hcz42_4
       try clear hcz42_5
       try clear hcz42_6
       try clear hcz42_7
       try clear hcz42_8
       try clear hcz43_0
       try clear hcz43_1
       try clear hcz43_2
       try clear hcz43_3
       try clear hcz43_4
       try clear hcz43_5
       try clear hcz43_6
       try clear hcz43_7
       try clear hcz43_8
       try clear hcz49_0
       try clear hcz49_1
       try clear hcz49_2
       try clear hcz49_3
       try clear hcz49_4
       try clear hcz49_5
       try clear hcz49_6
       try clear hcz49_7
       try clear hcz49_8
       try clear hcz51_0
       try clear hcz51_1
       try clear hcz51_2
       try clear hcz51_3
       try clear hcz51_4
       try clear hcz51_5
       try clear hcz51_6
       try clear hcz51_7
       try clear hcz51_8
       try clear hcz53_0
       try clear hcz53_1
       try clear hcz53_2
       try clear hcz53_3
       try clear hcz53_4
       try clear hcz53_5
       try clear hcz53_6
       try clear hcz53_7
       try clear hcz53_8
       try clear hcz54_0
       try clear hcz54_1
       try clear hcz54_2
       try clear hcz54_3
       try clear hcz54_4
       try clear hcz54_5
       try clear hcz54_6
       try clear hcz54_7
       try clear hcz54_8
       try clear hcz55_0
       try clear hcz55_1
       try clear hcz55_2
       try clear hcz55_3
       try clear hcz55_4
       try clear hcz55_5
       try clear hcz55_6
       try clear hcz55_7
       try clear hcz55_8
       try clear hcz56_0
       try clear hcz56_1
       try clear hcz56_2
       try clear hcz56_3
       try clear hcz56_4
       try clear hcz56_5
       try clear hcz56_6
       try clear hcz56_7
       try clear hcz56_8
       try clear hcz57_0
       try clear hcz57_1
       try clear hcz57_2
       try clear hcz57_3
       try clear hcz57_4
       try clear hcz57_5
       try clear hcz57_6
       try clear hcz57_7
       try clear hcz57_8
       try clear hcz58_0
       try clear hcz58_1
       try clear hcz58_2
       try clear hcz58_3
       try clear hcz58_4
       try clear hcz58_5
       try clear hcz58_6
       try clear hcz58_7
       try clear hcz58_8
       try clear hcz59_0
       try clear hcz59_1
       try clear hcz59_2
       try clear hcz59_3
       try clear hcz59_4
       try clear hcz59_5
       try clear hcz59_6
       try clear hcz59_7
       try clear hcz59_8
       try clear hcz60_0
       try clear hcz60_1
       try clear hcz60_2
       try clear hcz60_3
       try clear hcz60_4
       try clear hcz60_5
       try clear hcz60_6
       try clear hcz60_7
       try clear hcz60_8
       try clear hcz65_0
       try clear hcz65_1
       try clear hcz65_2
       try clear hcz65_3
       try clear hcz65_4
       try clear hcz65_5
       try clear hcz65_6
       try clear hcz65_7
       try clear hcz65_8
       try clear hcz70_0
       try clear hcz70_1
       try clear hcz70_2
       try clear hcz70_3
       try clear hcz70_4
       try clear hcz70_5
       try clear hcz70_6
       try clear hcz70_7
       try clear hcz70_8
       try clear hfz27_0
       try clear hfz27_1
       try clear hfz27_2
       try clear hfz27_3
       try clear hfz27_4
       try clear hfz27_5
       try clear hfz27_6
       try clear hfz27_7
       try clear hfz27_8
       try clear hfz29_0
       try clear hfz29_1
       try clear hfz29_2
       try clear hfz29_3
       try clear hfz29_4
       try clear hfz29_5
       try clear hfz29_6
       try clear hfz29_7
       try clear hfz29_8
       try clear hfz30_0
       try clear hfz30_1
       try clear hfz30_2
       try clear hfz30_3
       try clear hfz30_4
       try clear hfz30_5
       try clear hfz30_6
       try clear hfz30_7
       try clear hfz30_8
       try clear hfz31_0
       try clear hfz31_1
       try clear hfz31_2
       try clear hfz31_3
       try clear hfz31_4
       try clear hfz31_5
       try clear hfz31_6
       try clear hfz31_7
       try clear hfz31_8
       try clear hfz32_0
       try clear hfz32_1
       try clear hfz32_2
       try clear hfz32_3
       try clear hfz32_4
       try clear hfz32_5
       try clear hfz32_6
       try clear hfz32_7
       try clear hfz32_8
       try clear hfz33_0
       try clear hfz33_1
       try clear hfz33_2
       try clear hfz33_3
       try clear hfz33_4
       try clear hfz33_5
       try clear hfz33_6
       try clear hfz33_7
       try clear hfz33_8
       try clear hfz38_0
       try clear hfz38_1
       try clear hfz38_2
       try clear hfz38_3
       try clear hfz38_4
       try clear hfz38_5
       try clear hfz38_6
       try clear hfz38_7
       try clear hfz38_8
       try clear hfz40_0
       try clear hfz40_1
       try clear hfz40_2
       try clear hfz40_3
       try clear hfz40_4
       try clear hfz40_5
       try clear hfz40_6
       try clear hfz40_7
       try clear hfz40_8
       try clear hfz42_0
       try clear hfz42_1
       try clear hfz42_2
       try clear hfz42_3
       try clear hfz42_4
       try clear hfz42_5
       try clear hfz42_6
       try clear hfz42_7
       try clear hfz42_8
       try clear hfz43_0
       try clear hfz43_1
       try clear hfz43_2
       try clear hfz43_3
       try clear hfz43_4
       try clear hfz43_5
       try clear hfz43_6
       try clear hfz43_7
       try clear hfz43_8
       try clear hfz49_0
       try clear hfz49_1
       try clear hfz49_2
       try clear hfz49_3
       try clear hfz49_4
       try clear hfz49_5
       try clear hfz49_6
       try clear hfz49_7
       try clear hfz49_8
       try clear hfz51_0
       try clear hfz51_1
       try clear hfz51_2
       try clear hfz51_3
       try clear hfz51_4
       try clear hfz51_5
       try clear hfz51_6
       try clear hfz51_7
       try clear hfz51_8
       try clear hfz53_0
       try clear hfz53_1
       try clear hfz53_2
       try clear hfz53_3
       try clear hfz53_4
       try clear hfz53_5
       try clear hfz53_6
       try clear hfz53_7
       try clear hfz53_8
       try clear hfz54_0
       try clear hfz54_1
       try clear hfz54_2
       try clear hfz54_3
       try clear hfz54_4
       try clear hfz54_5
       try clear hfz54_6
       try clear hfz54_7
       try clear hfz54_8
       try clear hfz55_0
       try clear hfz55_1
       try clear hfz55_2
       try clear hfz55_3
       try clear hfz55_4
       try clear hfz55_5
       try clear hfz55_6
       try clear hfz55_7
       try clear hfz55_8
       try clear hfz56_0
       try clear hfz56_1
       try clear hfz56_2
       try clear hfz56_3
       try clear hfz56_4
       try clear hfz56_5
       try clear hfz56_6
       try clear hfz56_7
       try clear hfz56_8
       try clear hfz57_0
       try clear hfz57_1
       try clear hfz57_2
       try clear hfz57_3
       try clear hfz57_4
       try clear hfz57_5
       try clear hfz57_6
       try clear hfz57_7
       try clear hfz57_8
       try clear hfz58_0
       try clear hfz58_1
       try clear hfz58_2
       try clear hfz58_3
       try clear hfz58_4
       try clear hfz58_5
       try clear hfz58_6
       try clear hfz58_7
       try clear hfz58_8
       try clear hfz59_0
       try clear hfz59_1
       try clear hfz59_2
       try clear hfz59_3
       try clear hfz59_4
       try clear hfz59_5
       try clear hfz59_6
       try clear hfz59_7
       try clear hfz59_8
       try clear hfz60_0
       try clear hfz60_1
       try clear hfz60_2
       try clear hfz60_3
       try clear hfz60_4
       try clear hfz60_5
       try clear hfz60_6
       try clear hfz60_7
       try clear hfz60_8
       try clear hfz65_0
       try clear hfz65_1
       try clear hfz65_2
       try clear hfz65_3
       try clear hfz65_4
       try clear hfz65_5
       try clear hfz65_6
       try clear hfz65_7
       try clear hfz65_8
       try clear hfz70_0
       try clear hfz70_1
       try clear hfz70_2
       try clear hfz70_3
       try clear hfz70_4
       try clear hfz70_5
       try clear hfz70_6
       try clear hfz70_7
       try clear hfz70_8
       try clear p2
       obtain ⟨kq, x6_63, rfl, HA, HJ63, BK275, HB⟩ := hcut
       cases kq with
       | zero => exact absurd HA.out (by simp [spec_CookieText.j1])
       | succ kj63 =>
        have H := HA.out
        clear HA
        simp only [spec_CookieText.j1] at H
        have HC72 := Aside0.mk H
        clear H
        have hcz73_0 : wc.cell? ⟨gb275, 0, none⟩ = some (.string a0_0) := (blk_cell BK275.out 0).trans rfl
        have hcz73_1 : wc.cell? ⟨gb275, 1, none⟩ = some (.string a0_1) := (blk_cell BK275.out 1).trans rfl
        have hcz73_2 : wc.cell? ⟨gb275, 2, none⟩ = some (.string a0_2) := (blk_cell BK275.out 2).trans rfl
        have hcz73_3 : wc.cell? ⟨gb275, 3, none⟩ = some (.string a0_3) := (blk_cell BK275.out 3).trans rfl
        have hcz73_4 : wc.cell? ⟨gb275, 4, none⟩ = some (.int .i64 a0_4) := (blk_cell BK275.out 4).trans rfl
        have hcz73_5 : wc.cell? ⟨gb275, 5, none⟩ = some (.int .i64 a0_5) := (blk_cell BK275.out 5).trans rfl
        have hcz73_6 : wc.cell? ⟨gb275, 6, none⟩ = some (.bool a0_6) := (blk_cell BK275.out 6).trans rfl
        have hcz73_7 : wc.cell? ⟨gb275, 7, none⟩ = some (.bool a0_7) := (blk_cell BK275.out 7).trans rfl
        have hcz73_8 : wc.cell? ⟨gb275, 8, none⟩ = some (.bool a0_8) := (blk_cell BK275.out 8).trans rfl
        have hfz73_0 := blk_frozen BK275.out 0
        have hfz73_1 := blk_frozen BK275.out 1
        have hfz73_2 := blk_frozen BK275.out 2
        have hfz73_3 := blk_frozen BK275.out 3
        have hfz73_4 := blk_frozen BK275.out 4
        have hfz73_5 := blk_frozen BK275.out 5
        have hfz73_6 := blk_frozen BK275.out 6
        have hfz73_7 := blk_frozen BK275.out 7
        have hfz73_8 := blk_frozen BK275.out 8
        go_upto_if 91 with (fail)
        go_cut [6] (fun v6 wc => ∃ (kq : Nat) (x6_71 : ByteArray), v6 = .string x6_71 ∧ Aside0 (spec_CookieText.j2 kq x6_71 a0_0 a0_1 a0_2 a0_3 a0_4 a0_5 a0_6 a0_7 a0_8 = some (r1, r2)) ∧ Aside0 (kq ≤ kj63) ∧ Aside0 (wc.heap[gb275]? = some (.cells #[.string a0_0, .string a0_1, .string a0_2, .string a0_3, .int .i64 a0_4, .int .i64 a0_5, .bool a0_6, .bool a0_7, .bool a0_8] 60 (0, 0))) ∧ Aside0 (Below w.heap.size w wc))
        case first =>
         have H := HC72.out
         clear HC72
         by_cases c74 : a0_2.toList = ([] : List UInt8)
         ·
          rw [if_pos c74] at H
          have c74b0 : (a0_2.toList == ([] : List UInt8)) = true := beq_iff_eq.mpr c74
          have c74b1 : (a0_2.toList != ([] : List UInt8)) = false := bne_eq_false_iff_eq.mpr c74
          clear c74
          (first | rw [c74b0] | (simp only [i64_w, i32_w]; rw [c74b0]) | (rw [Go.Proofs.YtfbllodbcmcndaaX.isEmpty_eq]; rw [c74b0]) | skip)
          have H' := Aside0.mk H
          clear H
          go_wp2
          go_meet
          case rel => exact ⟨_, (x6_63), (by first | rfl | (simp; done) | (simp [*]; done) | (simp [Go.Proofs.YtfbllodbcmcndaaX.isEmpty_ne]; done)), H', ⟨by have := HJ2.out; have := HJ63.out; first | omega | exact Nat.le_refl _⟩, ⟨by (with_reducible repeat (first | refine blk_drewN ?_ _ | refine blk_drew ?_ | refine blk_alloc ?_ _)); exact BK275.out⟩, ⟨by repeat (first | (with_reducible first | exact HB.out | apply below_alloc | apply pw_below_drewN | apply below_drew1 | refine below_set ?_ GE275.out) | exact HB.out)⟩⟩
         ·
          rw [if_neg c74] at H
          have c74b0 : (a0_2.toList == ([] : List UInt8)) = false := beq_eq_false_iff_ne.mpr c74
          have c74b1 : (a0_2.toList != ([] : List UInt8)) = true := bne_iff_ne.mpr c74
          (first | rw [c74b0] | (simp only [i64_w, i32_w]; rw [c74b0]) | (rw [Go.Proofs.YtfbllodbcmcndaaX.isEmpty_eq]; rw [c74b0]) | skip)
          by_cases c75 : 9 + a0_2.size ≤ 9223372036854775807
          ·
           rw [if_pos c75] at H
           have c75b0 := eq_true c75
           have c75b1 : decide (9 + a0_2.size ≤ 9223372036854775807) = true := decide_eq_true c75
           try have c75b2 : (9223372036854775807 < 9 + a0_2.size) = False := eq_false (Nat.not_lt.2 c75)
           by_cases c76 : x6_63.size + (9 + a0_2.size) ≤ 9223372036854775807
           ·
            rw [if_pos c76] at H
            have c76b0 := eq_true c76
            have c76b1 : decide (x6_63.size + (9 + a0_2.size) ≤ 9223372036854775807) = true := decide_eq_true c76
            try have c76b2 : (9223372036854775807 < x6_63.size + (9 + a0_2.size)) = False := eq_false (Nat.not_lt.2 c76)
            have H' := Aside0.mk H
            clear H
            have hcz77_0 : wc.cell? ⟨gb275, 0, none⟩ = some (.string a0_0) := (blk_cell BK275.out 0).trans rfl
            have hcz77_1 : wc.cell? ⟨gb275, 1, none⟩ = some (.string a0_1) := (blk_cell BK275.out 1).trans rfl
            have hcz77_2 : wc.cell? ⟨gb275, 2, none⟩ = some (.string a0_2) := (blk_cell BK275.out 2).trans rfl
            have hcz77_3 : wc.cell? ⟨gb275, 3, none⟩ = some (.string a0_3) := (blk_cell BK275.out 3).trans rfl
            have hcz77_4 : wc.cell? ⟨gb275, 4, none⟩ = some (.int .i64 a0_4) := (blk_cell BK275.out 4).trans rfl
            have hcz77_5 : wc.cell? ⟨gb275, 5, none⟩ = some (.int .i64 a0_5) := (blk_cell BK275.out 5).trans rfl
            have hcz77_6 : wc.cell? ⟨gb275, 6, none⟩ = some (.bool a0_6) := (blk_cell BK275.out 6).trans rfl
            have hcz77_7 : wc.cell? ⟨gb275, 7, none⟩ = some (.bool a0_7) := (blk_cell BK275.out 7).trans rfl
            have hcz77_8 : wc.cell? ⟨gb275, 8, none⟩ = some (.bool a0_8) := (blk_cell BK275.out 8).trans rfl
            have hfz77_0 := blk_frozen BK275.out 0
            have hfz77_1 := blk_frozen BK275.out 1
            have hfz77_2 := blk_frozen BK275.out 2
            have hfz77_3 := blk_frozen BK275.out 3
            have hfz77_4 := blk_frozen BK275.out 4
            have hfz77_5 := blk_frozen BK275.out 5
            have hfz77_6 := blk_frozen BK275.out 6
            have hfz77_7 := blk_frozen BK275.out 7
            have hfz77_8 := blk_frozen BK275.out 8
            go_wp2
            go_meet
            case rel => exact ⟨_, (x6_63 ++ ((⟨#[59, 32, 100, 111, 109, 97, 105, 110, 61]⟩ : ByteArray) ++ a0_2)), (by first | rfl | (simp; done) | (simp [*]; done) | (simp [Go.Proofs.YtfbllodbcmcndaaX.isEmpty_ne]; done)), H', ⟨by have := HJ2.out; have := HJ63.out; first | omega | exact Nat.le_refl _⟩, ⟨by (with_reducible repeat (first | refine blk_drewN ?_ _ | refine blk_drew ?_ | refine blk_alloc ?_ _)); exact BK275.out⟩, ⟨by repeat (first | (with_reducible first | exact HB.out | apply below_alloc | apply pw_below_drewN | apply below_drew1 | refine below_set ?_ GE275.out) | exact HB.out)⟩⟩
           ·
            rw [if_neg c76] at H
            exact absurd H (by simp)
          ·
           rw [if_neg c75] at H
           exact absurd H (by simp)
        case rest =>
         clear HC72
         try clear c1
         try clear c2
         try clear p2
         try clear c3
         try clear c4
         try clear c5
         try clear c6
         try clear c7
         try clear c8
         try clear c10
         try clear c11
         try clear c11b0
         try clear c11b1
         try clear c20
         try clear c20b0
         try clear c20b1
         try clear c21
         try clear c21b0
         try clear c21b1
         try clear c23
         try clear c23b0
         try clear c23b1
         try clear c26
         try clear c26b0
         try clear c28
         try clear c28b0
         try clear c35
         try clear c36
         try clear c36b0
         try clear c36b1
         try clear c37
         try clear c39
         try clear c39b0
         try clear c41
         try clear c41b0
         try clear c44
         try clear c44b0
         try clear c44b1
         try clear c45
         try clear c45b0
         try clear c45b1
         try clear c47
         try clear c47b0
         try clear c47b1
         try clear c48
         try clear c50
         try clear c50b0
         try clear c52
         try clear c52b0
         try clear c61
         try clear c62
         try clear c62b0
         try clear c62b1
         try clear c62b2
         try clear c63
         try clear c63b0
         try clear c63b1
         try clear c63b2
         try clear c64
         try clear c66
         try clear c66b0
         try clear c68
         try clear c68b0
         try clear c68b1
         try clear c68b2
         try clear c69
         try clear c69b0
         try clear c69b1
         try clear c69b2
         try clear c74
         try clear c74b0
         try clear c74b1
         try clear c75
         try clear c75b0
         try clear c75b1
         try clear c75b2
         try clear c76
         try clear c76b0
         try clear c76b1
         try clear c76b2
         try clear hcz27_1
         try clear hcz27_2
         try clear hcz27_3
         try clear hcz27_4
         try clear hcz27_5
         try clear hcz27_6
         try clear hcz27_7
         try clear hcz27_8
         try clear hcz29_0
         try clear hcz29_1
         try clear hcz29_2
         try clear hcz29_3
         try clear hcz29_4
         try clear hcz29_5
         try clear hcz29_6
         try clear hcz29_7
         try clear hcz29_8
         try clear hcz30_0
         try clear hcz30_1
         try clear hcz30_2
         try clear hcz30_3
         try clear hcz30_4
         try clear hcz30_5
         try clear hcz30_6
         try clear hcz30_7
         try clear hcz30_8
         try clear hcz31_0
         try clear hcz31_1
         try clear hcz31_2
         try clear hcz31_3
         try clear hcz31_4
         try clear hcz31_5
         try clear hcz31_6
         try clear hcz31_7
         try clear hcz31_8
         try clear hcz32_0
         try clear hcz32_1
         try clear hcz32_2
         try clear hcz32_3
         try clear hcz32_4
         try clear hcz32_5
         try clear hcz32_6
         try clear hcz32_7
         try clear hcz32_8
         try clear hcz33_0
         try clear hcz33_1
         try clear hcz33_2
         try clear hcz33_3
         try clear hcz33_4
         try clear hcz33_5
         try clear hcz33_6
         try clear hcz33_7
         try clear hcz33_8
         try clear hcz38_0
         try clear hcz38_1
         try clear hcz38_2
         try clear hcz38_3
         try clear hcz38_4
         try clear hcz38_5
         try clear hcz38_6
         try clear hcz38_7
         try clear hcz38_8
         try clear hcz40_0
         try clear hcz40_1
         try clear hcz40_2
         try clear hcz40_3
         try clear hcz40_4
         try clear hcz40_5
         try clear hcz40_6
         try clear hcz40_7
         try clear hcz40_8
         try clear hcz42_0
         try clear hcz42_1
         try clear hcz42_2
         try clear hcz42_3
         try clear hcz42_4
         try clear hcz42_5
         try clear hcz42_6
         try clear hcz42_7
         try clear hcz42_8
         try clear hcz43_0
         try clear hcz43_1
         try clear hcz43_2
         try clear hcz43_3
         try clear hcz43_4
         try clear hcz43_5
         try clear hcz43_6
         try clear hcz43_7
         try clear hcz43_8
         try clear hcz49_0
         try clear hcz49_1
         try clear hcz49_2
         try clear hcz49_3
         try clear hcz49_4
         try clear hcz49_5
         try clear hcz49_6
         try clear hcz49_7
         try clear hcz49_8
         try clear hcz51_0
         try clear hcz51_1
         try clear hcz51_2
         try clear hcz51_3
         try clear hcz51_4
         try clear hcz51_5
         try clear hcz51_6
         try clear hcz51_7
         try clear hcz51_8
         try clear hcz53_0
         try clear hcz53_1
         try clear hcz53_2
         try clear hcz53_3
         try clear hcz53_4
         try clear hcz53_5
         try clear hcz53_6
         try clear hcz53_7
         try clear hcz53_8
         try clear hcz54_0
         try clear hcz54_1
         try clear hcz54_2
         try clear hcz54_3
         try clear hcz54_4
         try clear hcz54_5
         try clear hcz54_6
         try clear hcz54_7
         try clear hcz54_8
         try clear hcz55_0
         try clear hcz55_1
         try clear hcz55_2
         try clear hcz55_3
         try clear hcz55_4
         try clear hcz55_5
         try clear hcz55_6
         try clear hcz55_7
         try clear hcz55_8
         try clear hcz56_0
         try clear hcz56_1
         try clear hcz56_2
         try clear hcz56_3
         try clear hcz56_4
         try clear hcz56_5
         try clear hcz56_6
         try clear hcz56_7
         try clear hcz56_8
         try clear hcz57_0
         try clear hcz57_1
         try clear hcz57_2
         try clear hcz57_3
         try clear hcz57_4
         try clear hcz57_5
         try clear hcz57_6
         try clear hcz57_7
         try clear hcz57_8
         try clear hcz58_0
         try clear hcz58_1
         try clear hcz58_2
         try clear hcz58_3
         try clear hcz58_4
         try clear hcz58_5
         try clear hcz58_6
         try clear hcz58_7
         try clear hcz58_8
         try clear hcz59_0
         try clear hcz59_1
         try clear hcz59_2
         try clear hcz59_3
         try clear hcz59_4
         try clear hcz59_5
         try clear hcz59_6
         try clear hcz59_7
         try clear hcz59_8
         try clear hcz60_0
         try clear hcz60_1
         try clear hcz60_2
         try clear hcz60_3
         try clear hcz60_4
         try clear hcz60_5
         try clear hcz60_6
         try clear hcz60_7
         try clear hcz60_8
         try clear hcz65_0
         try clear hcz65_1
         try clear hcz65_2
         try clear hcz65_3
         try clear hcz65_4
         try clear hcz65_5
         try clear hcz65_6
         try clear hcz65_7
         try clear hcz65_8
         try clear hcz70_0
         try clear hcz70_1
         try clear hcz70_2
         try clear hcz70_3
         try clear hcz70_4
         try clear hcz70_5
         try clear hcz70_6
         try clear hcz70_7
         try clear hcz70_8
         try clear hcz73_0
         try clear hcz73_1
         try clear hcz73_2
         try clear hcz73_3
         try clear hcz73_4
         try clear hcz73_5
         try clear hcz73_6
         try clear hcz73_7
         try clear hcz73_8
         try clear hcz77_0
         try clear hcz77_1
         try clear hcz77_2
         try clear hcz77_3
         try clear hcz77_4
         try clear hcz77_5
         try clear hcz77_6
         try clear hcz77_7
         try clear hcz77_8
         try clear hfz27_0
         try clear hfz27_1
         try clear hfz27_2
         try clear hfz27_3
         try clear hfz27_4
         try clear hfz27_5
         try clear hfz27_6
         try clear hfz27_7
         try clear hfz27_8
         try clear hfz29_0
         try clear hfz29_1
         try clear hfz29_2
         try clear hfz29_3
         try clear hfz29_4
         try clear hfz29_5
         try clear hfz29_6
         try clear hfz29_7
         try clear hfz29_8
         try clear hfz30_0
         try clear hfz30_1
         try clear hfz30_2
         try clear hfz30_3
         try clear hfz30_4
         try clear hfz30_5
         try clear hfz30_6
         try clear hfz30_7
         try clear hfz30_8
         try clear hfz31_0
         try clear hfz31_1
         try clear hfz31_2
         try clear hfz31_3
         try clear hfz31_4
         try clear hfz31_5
         try clear hfz31_6
         try clear hfz31_7
         try clear hfz31_8
         try clear hfz32_0
         try clear hfz32_1
         try clear hfz32_2
         try clear hfz32_3
         try clear hfz32_4
         try clear hfz32_5
         try clear hfz32_6
         try clear hfz32_7
         try clear hfz32_8
         try clear hfz33_0
         try clear hfz33_1
         try clear hfz33_2
         try clear hfz33_3
         try clear hfz33_4
         try clear hfz33_5
         try clear hfz33_6
         try clear hfz33_7
         try clear hfz33_8
         try clear hfz38_0
         try clear hfz38_1
         try clear hfz38_2
         try clear hfz38_3
         try clear hfz38_4
         try clear hfz38_5
         try clear hfz38_6
         try clear hfz38_7
         try clear hfz38_8
         try clear hfz40_0
         try clear hfz40_1
         try clear hfz40_2
         try clear hfz40_3
         try clear hfz40_4
         try clear hfz40_5
         try clear hfz40_6
         try clear hfz40_7
         try clear hfz40_8
         try clear hfz42_0
         try clear hfz42_1
         try clear hfz42_2
         try clear hfz42_3
         try clear hfz42_4
         try clear hfz42_5
         try clear hfz42_6
         try clear hfz42_7
         try clear hfz42_8
         try clear hfz43_0
         try clear hfz43_1
         try clear hfz43_2
         try clear hfz43_3
         try clear hfz43_4
         try clear hfz43_5
         try clear hfz43_6
         try clear hfz43_7
         try clear hfz43_8
         try clear hfz49_0
         try clear hfz49_1
         try clear hfz49_2
         try clear hfz49_3
         try clear hfz49_4
         try clear hfz49_5
         try clear hfz49_6
         try clear hfz49_7
         try clear hfz49_8
         try clear hfz51_0
         try clear hfz51_1
         try clear hfz51_2
         try clear hfz51_3
         try clear hfz51_4
         try clear hfz51_5
         try clear hfz51_6
         try clear hfz51_7
         try clear hfz51_8
         try clear hfz53_0
         try clear hfz53_1
         try clear hfz53_2
         try clear hfz53_3
         try clear hfz53_4
         try clear hfz53_5
         try clear hfz53_6
         try clear hfz53_7
         try clear hfz53_8
         try clear hfz54_0
         try clear hfz54_1
         try clear hfz54_2
         try clear hfz54_3
         try clear hfz54_4
         try clear hfz54_5
         try clear hfz54_6
         try clear hfz54_7
         try clear hfz54_8
         try clear hfz55_0
         try clear hfz55_1
         try clear hfz55_2
         try clear hfz55_3
         try clear hfz55_4
         try clear hfz55_5
         try clear hfz55_6
         try clear hfz55_7
         try clear hfz55_8
         try clear hfz56_0
         try clear hfz56_1
         try clear hfz56_2
         try clear hfz56_3
         try clear hfz56_4
         try clear hfz56_5
         try clear hfz56_6
         try clear hfz56_7
         try clear hfz56_8
         try clear hfz57_0
         try clear hfz57_1
         try clear hfz57_2
         try clear hfz57_3
         try clear hfz57_4
         try clear hfz57_5
         try clear hfz57_6
         try clear hfz57_7
         try clear hfz57_8
         try clear hfz58_0
         try clear hfz58_1
         try clear hfz58_2
         try clear hfz58_3
         try clear hfz58_4
         try clear hfz58_5
         try clear hfz58_6
         try clear hfz58_7
         try clear hfz58_8
         try clear hfz59_0
         try clear hfz59_1
         try clear hfz59_2
         try clear hfz59_3
         try clear hfz59_4
         try clear hfz59_5
         try clear hfz59_6
         try clear hfz59_7
         try clear hfz59_8
         try clear hfz60_0
         try clear hfz60_1
         try clear hfz60_2
         try clear hfz60_3
         try clear hfz60_4
         try clear hfz60_5
         try clear hfz60_6
         try clear hfz60_7
         try clear hfz60_8
         try clear hfz65_0
         try clear hfz65_1
         try clear hfz65_2
         try clear hfz65_3
         try clear hfz65_4
         try clear hfz65_5
         try clear hfz65_6
         try clear hfz65_7
         try clear hfz65_8
         try clear hfz70_0
         try clear hfz70_1
         try clear hfz70_2
         try clear hfz70_3
         try clear hfz70_4
         try clear hfz70_5
         try clear hfz70_6
         try clear hfz70_7
         try clear hfz70_8
         try clear hfz73_0
         try clear hfz73_1
         try clear hfz73_2
         try clear hfz73_3
         try clear hfz73_4
         try clear hfz73_5
         try clear hfz73_6
         try clear hfz73_7
         try clear hfz73_8
         try clear hfz77_0
         try clear hfz77_1
         try clear hfz77_2
         try clear hfz77_3
         try clear hfz77_4
         try clear hfz77_5
         try clear hfz77_6
         try clear hfz77_7
         try clear hfz77_8
         try clear p2
         obtain ⟨kq, x6_71, rfl, HA, HJ71, BK275, HB⟩ := hcut
         cases kq with
         | zero => exact absurd HA.out (by simp [spec_CookieText.j2])
         | succ kj71 =>
          have H := HA.out
          clear HA
          simp only [spec_CookieText.j2] at H
          have HC78 := Aside0.mk H
          clear H
          have hcz79_0 : wc.cell? ⟨gb275, 0, none⟩ = some (.string a0_0) := (blk_cell BK275.out 0).trans rfl
          have hcz79_1 : wc.cell? ⟨gb275, 1, none⟩ = some (.string a0_1) := (blk_cell BK275.out 1).trans rfl
          have hcz79_2 : wc.cell? ⟨gb275, 2, none⟩ = some (.string a0_2) := (blk_cell BK275.out 2).trans rfl
          have hcz79_3 : wc.cell? ⟨gb275, 3, none⟩ = some (.string a0_3) := (blk_cell BK275.out 3).trans rfl
          have hcz79_4 : wc.cell? ⟨gb275, 4, none⟩ = some (.int .i64 a0_4) := (blk_cell BK275.out 4).trans rfl
          have hcz79_5 : wc.cell? ⟨gb275, 5, none⟩ = some (.int .i64 a0_5) := (blk_cell BK275.out 5).trans rfl
          have hcz79_6 : wc.cell? ⟨gb275, 6, none⟩ = some (.bool a0_6) := (blk_cell BK275.out 6).trans rfl
          have hcz79_7 : wc.cell? ⟨gb275, 7, none⟩ = some (.bool a0_7) := (blk_cell BK275.out 7).trans rfl
          have hcz79_8 : wc.cell? ⟨gb275, 8, none⟩ = some (.bool a0_8) := (blk_cell BK275.out 8).trans rfl
          have hfz79_0 := blk_frozen BK275.out 0
          have hfz79_1 := blk_frozen BK275.out 1
          have hfz79_2 := blk_frozen BK275.out 2
          have hfz79_3 := blk_frozen BK275.out 3
          have hfz79_4 := blk_frozen BK275.out 4
          have hfz79_5 := blk_frozen BK275.out 5
          have hfz79_6 := blk_frozen BK275.out 6
          have hfz79_7 := blk_frozen BK275.out 7
          have hfz79_8 := blk_frozen BK275.out 8
          go_upto_if 99 with (fail)
          go_cut [6] (fun v6 wc => ∃ (kq : Nat) (x6_77 : ByteArray), v6 = .string x6_77 ∧ Aside0 (spec_CookieText.j3 kq x6_77 a0_0 a0_1 a0_2 a0_3 a0_4 a0_5 a0_6 a0_7 a0_8 = some (r1, r2)) ∧ Aside0 (kq ≤ kj71) ∧ Aside0 (wc.heap[gb275]? = some (.cells #[.string a0_0, .string a0_1, .string a0_2, .string a0_3, .int .i64 a0_4, .int .i64 a0_5, .bool a0_6, .bool a0_7, .bool a0_8] 60 (0, 0))) ∧ Aside0 (Below w.heap.size w wc))
          case first =>
           have H := HC78.out
           clear HC78
           by_cases c80 : a0_3.toList = ([] : List UInt8)
           ·
            rw [if_pos c80] at H
            have c80b0 : (a0_3.toList == ([] : List UInt8)) = true := beq_iff_eq.mpr c80
            have c80b1 : (a0_3.toList != ([] : List UInt8)) = false := bne_eq_false_iff_eq.mpr c80
            clear c80
            (first | rw [c80b0] | (simp only [i64_w, i32_w]; rw [c80b0]) | (rw [Go.Proofs.YtfbllodbcmcndaaX.isEmpty_eq]; rw [c80b0]) | skip)
            have H' := Aside0.mk H
            clear H
            go_wp2
            go_meet
            case rel => exact ⟨_, (x6_71), (by first | rfl | (simp; done) | (simp [*]; done) | (simp [Go.Proofs.YtfbllodbcmcndaaX.isEmpty_ne]; done)), H', ⟨by have := HJ2.out; have := HJ63.out; have := HJ71.out; first | omega | exact Nat.le_refl _⟩, ⟨by (with_reducible repeat (first | refine blk_drewN ?_ _ | refine blk_drew ?_ | refine blk_alloc ?_ _)); exact BK275.out⟩, ⟨by repeat (first | (with_reducible first | exact HB.out | apply below_alloc | apply pw_below_drewN | apply below_drew1 | refine below_set ?_ GE275.out) | exact HB.out)⟩⟩
           ·
            rw [if_neg c80] at H
            have c80b0 : (a0_3.toList == ([] : List UInt8)) = false := beq_eq_false_iff_ne.mpr c80
            have c80b1 : (a0_3.toList != ([] : List UInt8)) = true := bne_iff_ne.mpr c80
            (first | rw [c80b0] | (simp only [i64_w, i32_w]; rw [c80b0]) | (rw [Go.Proofs.YtfbllodbcmcndaaX.isEmpty_eq]; rw [c80b0]) | skip)
            by_cases c81 : 7 + a0_3.size ≤ 9223372036854775807
            ·
             rw [if_pos c81] at H
             have c81b0 := eq_true c81
             have c81b1 : decide (7 + a0_3.size ≤ 9223372036854775807) = true := decide_eq_true c81
             try have c81b2 : (9223372036854775807 < 7 + a0_3.size) = False := eq_false (Nat.not_lt.2 c81)
             by_cases c82 : x6_71.size + (7 + a0_3.size) ≤ 9223372036854775807
             ·
              rw [if_pos c82] at H
              have c82b0 := eq_true c82
              have c82b1 : decide (x6_71.size + (7 + a0_3.size) ≤ 9223372036854775807) = true := decide_eq_true c82
              try have c82b2 : (9223372036854775807 < x6_71.size + (7 + a0_3.size)) = False := eq_false (Nat.not_lt.2 c82)
              have H' := Aside0.mk H
              clear H
              have hcz83_0 : wc.cell? ⟨gb275, 0, none⟩ = some (.string a0_0) := (blk_cell BK275.out 0).trans rfl
              have hcz83_1 : wc.cell? ⟨gb275, 1, none⟩ = some (.string a0_1) := (blk_cell BK275.out 1).trans rfl
              have hcz83_2 : wc.cell? ⟨gb275, 2, none⟩ = some (.string a0_2) := (blk_cell BK275.out 2).trans rfl
              have hcz83_3 : wc.cell? ⟨gb275, 3, none⟩ = some (.string a0_3) := (blk_cell BK275.out 3).trans rfl
              have hcz83_4 : wc.cell? ⟨gb275, 4, none⟩ = some (.int .i64 a0_4) := (blk_cell BK275.out 4).trans rfl
              have hcz83_5 : wc.cell? ⟨gb275, 5, none⟩ = some (.int .i64 a0_5) := (blk_cell BK275.out 5).trans rfl
              have hcz83_6 : wc.cell? ⟨gb275, 6, none⟩ = some (.bool a0_6) := (blk_cell BK275.out 6).trans rfl
              have hcz83_7 : wc.cell? ⟨gb275, 7, none⟩ = some (.bool a0_7) := (blk_cell BK275.out 7).trans rfl
              have hcz83_8 : wc.cell? ⟨gb275, 8, none⟩ = some (.bool a0_8) := (blk_cell BK275.out 8).trans rfl
              have hfz83_0 := blk_frozen BK275.out 0
              have hfz83_1 := blk_frozen BK275.out 1
              have hfz83_2 := blk_frozen BK275.out 2
              have hfz83_3 := blk_frozen BK275.out 3
              have hfz83_4 := blk_frozen BK275.out 4
              have hfz83_5 := blk_frozen BK275.out 5
              have hfz83_6 := blk_frozen BK275.out 6
              have hfz83_7 := blk_frozen BK275.out 7
              have hfz83_8 := blk_frozen BK275.out 8
              go_wp2
              go_meet
              case rel => exact ⟨_, (x6_71 ++ ((⟨#[59, 32, 112, 97, 116, 104, 61]⟩ : ByteArray) ++ a0_3)), (by first | rfl | (simp; done) | (simp [*]; done) | (simp [Go.Proofs.YtfbllodbcmcndaaX.isEmpty_ne]; done)), H', ⟨by have := HJ2.out; have := HJ63.out; have := HJ71.out; first | omega | exact Nat.le_refl _⟩, ⟨by (with_reducible repeat (first | refine blk_drewN ?_ _ | refine blk_drew ?_ | refine blk_alloc ?_ _)); exact BK275.out⟩, ⟨by repeat (first | (with_reducible first | exact HB.out | apply below_alloc | apply pw_below_drewN | apply below_drew1 | refine below_set ?_ GE275.out) | exact HB.out)⟩⟩
             ·
              rw [if_neg c82] at H
              exact absurd H (by simp)
            ·
             rw [if_neg c81] at H
             exact absurd H (by simp)
          case rest =>
           clear HC78
           try clear c1
           try clear c2
           try clear p2
           try clear c3
           try clear c4
           try clear c5
           try clear c6
           try clear c7
           try clear c8
           try clear c10
           try clear c11
           try clear c11b0
           try clear c11b1
           try clear c20
           try clear c20b0
           try clear c20b1
           try clear c21
           try clear c21b0
           try clear c21b1
           try clear c23
           try clear c23b0
           try clear c23b1
           try clear c26
           try clear c26b0
           try clear c28
           try clear c28b0
           try clear c35
           try clear c36
           try clear c36b0
           try clear c36b1
           try clear c37
           try clear c39
           try clear c39b0
           try clear c41
           try clear c41b0
           try clear c44
           try clear c44b0
           try clear c44b1
           try clear c45
           try clear c45b0
           try clear c45b1
           try clear c47
           try clear c47b0
           try clear c47b1
           try clear c48
           try clear c50
           try clear c50b0
           try clear c52
           try clear c52b0
           try clear c61
           try clear c62
           try clear c62b0
           try clear c62b1
           try clear c62b2
           try clear c63
           try clear c63b0
           try clear c63b1
           try clear c63b2
           try clear c64
           try clear c66
           try clear c66b0
           try clear c68
           try clear c68b0
           try clear c68b1
           try clear c68b2
           try clear c69
           try clear c69b0
           try clear c69b1
           try clear c69b2
           try clear c74
           try clear c74b0
           try clear c74b1
           try clear c75
           try clear c75b0
           try clear c75b1
           try clear c75b2
           try clear c76
           try clear c76b0
           try clear c76b1
           try clear c76b2
           try clear c80
           try clear c80b0
           try clear c80b1
           try clear c81
           try clear c81b0
           try clear c81b1
           try clear c81b2
           try clear c82
           try clear c82b0
           try clear c82b1
           try clear c82b2
           try clear hcz27_1
           try clear hcz27_2
           try clear hcz27_3
           try clear hcz27_4
           try clear hcz27_5
           try clear hcz27_6
           try clear hcz27_7
           try clear hcz27_8
           try clear hcz29_0
           try clear hcz29_1
           try clear hcz29_2
           try clear hcz29_3
           try clear hcz29_4
           try clear hcz29_5
           try clear hcz29_6
           try clear hcz29_7
           try clear hcz29_8
           try clear hcz30_0
           try clear hcz30_1
           try clear hcz30_2
           try clear hcz30_3
           try clear hcz30_4
           try clear hcz30_5
           try clear hcz30_6
           try clear hcz30_7
           try clear hcz30_8
           try clear hcz31_0
           try clear hcz31_1
           try clear hcz31_2
           try clear hcz31_3
           try clear hcz31_4
           try clear hcz31_5
           try clear hcz31_6
           try clear hcz31_7
           try clear hcz31_8
           try clear hcz32_0
           try clear hcz32_1
           try clear hcz32_2
           try clear hcz32_3
           try clear hcz32_4
           try clear hcz32_5
           try clear hcz32_6
           try clear hcz32_7
           try clear hcz32_8
           try clear hcz33_0
           try clear hcz33_1
           try clear hcz33_2
           try clear hcz33_3
           try clear hcz33_4
           try clear hcz33_5
           try clear hcz33_6
           try clear hcz33_7
           try clear hcz33_8
           try clear hcz38_0
           try clear hcz38_1
           try clear hcz38_2
           try clear hcz38_3
           try clear hcz38_4
           try clear hcz38_5
           try clear hcz38_6
           try clear hcz38_7
           try clear hcz38_8
           try clear hcz40_0
           try clear hcz40_1
           try clear hcz40_2
           try clear hcz40_3
           try clear hcz40_4
           try clear hcz40_5
           try clear hcz40_6
           try clear hcz40_7
           try clear hcz40_8
           try clear hcz42_0
           try clear hcz42_1
           try clear hcz42_2
           try clear hcz42_3
           try clear hcz42_4
           try clear hcz42_5
           try clear hcz42_6
           try clear hcz42_7
           try clear hcz42_8
           try clear hcz43_0
           try clear hcz43_1
           try clear hcz43_2
           try clear hcz43_3
           try clear hcz43_4
           try clear hcz43_5
           try clear hcz43_6
           try clear hcz43_7
           try clear hcz43_8
           try clear hcz49_0
           try clear hcz49_1
           try clear hcz49_2
           try clear hcz49_3
           try clear hcz49_4
           try clear hcz49_5
           try clear hcz49_6
           try clear hcz49_7
           try clear hcz49_8
           try clear hcz51_0
           try clear hcz51_1
           try clear hcz51_2
           try clear hcz51_3
           try clear hcz51_4
           try clear hcz51_5
           try clear hcz51_6
           try clear hcz51_7
           try clear hcz51_8
           try clear hcz53_0
           try clear hcz53_1
           try clear hcz53_2
           try clear hcz53_3
           try clear hcz53_4
           try clear hcz53_5
           try clear hcz53_6
           try clear hcz53_7
           try clear hcz53_8
           try clear hcz54_0
           try clear hcz54_1
           try clear hcz54_2
           try clear hcz54_3
           try clear hcz54_4
           try clear hcz54_5
           try clear hcz54_6
           try clear hcz54_7
           try clear hcz54_8
           try clear hcz55_0
           try clear hcz55_1
           try clear hcz55_2
           try clear hcz55_3
           try clear hcz55_4
           try clear hcz55_5
           try clear hcz55_6
           try clear hcz55_7
           try clear hcz55_8
           try clear hcz56_0
           try clear hcz56_1
           try clear hcz56_2
           try clear hcz56_3
           try clear hcz56_4
           try clear hcz56_5
           try clear hcz56_6
           try clear hcz56_7
           try clear hcz56_8
           try clear hcz57_0
           try clear hcz57_1
           try clear hcz57_2
           try clear hcz57_3
           try clear hcz57_4
           try clear hcz57_5
           try clear hcz57_6
           try clear hcz57_7
           try clear hcz57_8
           try clear hcz58_0
           try clear hcz58_1
           try clear hcz58_2
           try clear hcz58_3
           try clear hcz58_4
           try clear hcz58_5
           try clear hcz58_6
           try clear hcz58_7
           try clear hcz58_8
           try clear hcz59_0
           try clear hcz59_1
           try clear hcz59_2
           try clear hcz59_3
           try clear hcz59_4
           try clear hcz59_5
           try clear hcz59_6
           try clear hcz59_7
           try clear hcz59_8
           try clear hcz60_0
           try clear hcz60_1
           try clear hcz60_2
           try clear hcz60_3
           try clear hcz60_4
           try clear hcz60_5
           try clear hcz60_6
           try clear hcz60_7
           try clear hcz60_8
           try clear hcz65_0
           try clear hcz65_1
           try clear hcz65_2
           try clear hcz65_3
           try clear hcz65_4
           try clear hcz65_5
           try clear hcz65_6
           try clear hcz65_7
           try clear hcz65_8
           try clear hcz70_0
           try clear hcz70_1
           try clear hcz70_2
           try clear hcz70_3
           try clear hcz70_4
           try clear hcz70_5
           try clear hcz70_6
           try clear hcz70_7
           try clear hcz70_8
           try clear hcz73_0
           try clear hcz73_1
           try clear hcz73_2
           try clear hcz73_3
           try clear hcz73_4
           try clear hcz73_5
           try clear hcz73_6
           try clear hcz73_7
           try clear hcz73_8
           try clear hcz77_0
           try clear hcz77_1
           try clear hcz77_2
           try clear hcz77_3
           try clear hcz77_4
           try clear hcz77_5
           try clear hcz77_6
           try clear hcz77_7
           try clear hcz77_8
           try clear hcz79_0
           try clear hcz79_1
           try clear hcz79_2
           try clear hcz79_3
           try clear hcz79_4
           try clear hcz79_5
           try clear hcz79_6
           try clear hcz79_7
           try clear hcz79_8
           try clear hcz83_0
           try clear hcz83_1
           try clear hcz83_2
           try clear hcz83_3
           try clear hcz83_4
           try clear hcz83_5
           try clear hcz83_6
           try clear hcz83_7
           try clear hcz83_8
           try clear hfz27_0
           try clear hfz27_1
           try clear hfz27_2
           try clear hfz27_3
           try clear hfz27_4
           try clear hfz27_5
           try clear hfz27_6
           try clear hfz27_7
           try clear hfz27_8
           try clear hfz29_0
           try clear hfz29_1
           try clear hfz29_2
           try clear hfz29_3
           try clear hfz29_4
           try clear hfz29_5
           try clear hfz29_6
           try clear hfz29_7
           try clear hfz29_8
           try clear hfz30_0
           try clear hfz30_1
           try clear hfz30_2
           try clear hfz30_3
           try clear hfz30_4
           try clear hfz30_5
           try clear hfz30_6
           try clear hfz30_7
           try clear hfz30_8
           try clear hfz31_0
           try clear hfz31_1
           try clear hfz31_2
           try clear hfz31_3
           try clear hfz31_4
           try clear hfz31_5
           try clear hfz31_6
           try clear hfz31_7
           try clear hfz31_8
           try clear hfz32_0
           try clear hfz32_1
           try clear hfz32_2
           try clear hfz32_3
           try clear hfz32_4
           try clear hfz32_5
           try clear hfz32_6
           try clear hfz32_7
           try clear hfz32_8
           try clear hfz33_0
           try clear hfz33_1
           try clear hfz33_2
           try clear hfz33_3
           try clear hfz33_4
           try clear hfz33_5
           try clear hfz33_6
           try clear hfz33_7
           try clear hfz33_8
           try clear hfz38_0
           try clear hfz38_1
           try clear hfz38_2
           try clear hfz38_3
           try clear hfz38_4
           try clear hfz38_5
           try clear hfz38_6
           try clear hfz38_7
           try clear hfz38_8
           try clear hfz40_0
           try clear hfz40_1
           try clear hfz40_2
           try clear hfz40_3
           try clear hfz40_4
           try clear hfz40_5
           try clear hfz40_6
           try clear hfz40_7
           try clear hfz40_8
           try clear hfz42_0
           try clear hfz42_1
           try clear hfz42_2
           try clear hfz42_3
           try clear hfz42_4
           try clear hfz42_5
           try clear hfz42_6
           try clear hfz42_7
           try clear hfz42_8
           try clear hfz43_0
           try clear hfz43_1
           try clear hfz43_2
           try clear hfz43_3
           try clear hfz43_4
           try clear hfz43_5
           try clear hfz43_6
           try clear hfz43_7
           try clear hfz43_8
           try clear hfz49_0
           try clear hfz49_1
           try clear hfz49_2
           try clear hfz49_3
           try clear hfz49_4
           try clear hfz49_5
           try clear hfz49_6
           try clear hfz49_7
           try clear hfz49_8
           try clear hfz51_0
           try clear hfz51_1
           try clear hfz51_2
           try clear hfz51_3
           try clear hfz51_4
           try clear hfz51_5
           try clear hfz51_6
           try clear hfz51_7
           try clear hfz51_8
           try clear hfz53_0
           try clear hfz53_1
           try clear hfz53_2
           try clear hfz53_3
           try clear hfz53_4
           try clear hfz53_5
           try clear hfz53_6
           try clear hfz53_7
           try clear hfz53_8
           try clear hfz54_0
           try clear hfz54_1
           try clear hfz54_2
           try clear hfz54_3
           try clear hfz54_4
           try clear hfz54_5
           try clear hfz54_6
           try clear hfz54_7
           try clear hfz54_8
           try clear hfz55_0
           try clear hfz55_1
           try clear hfz55_2
           try clear hfz55_3
           try clear hfz55_4
           try clear hfz55_5
           try clear hfz55_6
           try clear hfz55_7
           try clear hfz55_8
           try clear hfz56_0
           try clear hfz56_1
           try clear hfz56_2
           try clear hfz56_3
           try clear hfz56_4
           try clear hfz56_5
           try clear hfz56_6
           try clear hfz56_7
           try clear hfz56_8
           try clear hfz57_0
           try clear hfz57_1
           try clear hfz57_2
           try clear hfz57_3
           try clear hfz57_4
           try clear hfz57_5
           try clear hfz57_6
           try clear hfz57_7
           try clear hfz57_8
           try clear hfz58_0
           try clear hfz58_1
           try clear hfz58_2
           try clear hfz58_3
           try clear hfz58_4
           try clear hfz58_5
           try clear hfz58_6
           try clear hfz58_7
           try clear hfz58_8
           try clear hfz59_0
           try clear hfz59_1
           try clear hfz59_2
           try clear hfz59_3
           try clear hfz59_4
           try clear hfz59_5
           try clear hfz59_6
           try clear hfz59_7
           try clear hfz59_8
           try clear hfz60_0
           try clear hfz60_1
           try clear hfz60_2
           try clear hfz60_3
           try clear hfz60_4
           try clear hfz60_5
           try clear hfz60_6
           try clear hfz60_7
           try clear hfz60_8
           try clear hfz65_0
           try clear hfz65_1
           try clear hfz65_2
           try clear hfz65_3
           try clear hfz65_4
           try clear hfz65_5
           try clear hfz65_6
           try clear hfz65_7
           try clear hfz65_8
           try clear hfz70_0
           try clear hfz70_1
           try clear hfz70_2
           try clear hfz70_3
           try clear hfz70_4
           try clear hfz70_5
           try clear hfz70_6
           try clear hfz70_7
           try clear hfz70_8
           try clear hfz73_0
           try clear hfz73_1
           try clear hfz73_2
           try clear hfz73_3
           try clear hfz73_4
           try clear hfz73_5
           try clear hfz73_6
           try clear hfz73_7
           try clear hfz73_8
           try clear hfz77_0
           try clear hfz77_1
           try clear hfz77_2
           try clear hfz77_3
           try clear hfz77_4
           try clear hfz77_5
           try clear hfz77_6
           try clear hfz77_7
           try clear hfz77_8
           try clear hfz79_0
           try clear hfz79_1
           try clear hfz79_2
           try clear hfz79_3
           try clear hfz79_4
           try clear hfz79_5
           try clear hfz79_6
           try clear hfz79_7
           try clear hfz79_8
           try clear hfz83_0
           try clear hfz83_1
           try clear hfz83_2
           try clear hfz83_3
           try clear hfz83_4
           try clear hfz83_5
           try clear hfz83_6
           try clear hfz83_7
           try clear hfz83_8
           try clear p2
           obtain ⟨kq, x6_77, rfl, HA, HJ77, BK275, HB⟩ := hcut
           cases kq with
           | zero => exact absurd HA.out (by simp [spec_CookieText.j3])
           | succ kj77 =>
            have H := HA.out
            clear HA
            simp only [spec_CookieText.j3] at H
            have HC84 := Aside0.mk H
            clear H
            have hcz85_0 : wc.cell? ⟨gb275, 0, none⟩ = some (.string a0_0) := (blk_cell BK275.out 0).trans rfl
            have hcz85_1 : wc.cell? ⟨gb275, 1, none⟩ = some (.string a0_1) := (blk_cell BK275.out 1).trans rfl
            have hcz85_2 : wc.cell? ⟨gb275, 2, none⟩ = some (.string a0_2) := (blk_cell BK275.out 2).trans rfl
            have hcz85_3 : wc.cell? ⟨gb275, 3, none⟩ = some (.string a0_3) := (blk_cell BK275.out 3).trans rfl
            have hcz85_4 : wc.cell? ⟨gb275, 4, none⟩ = some (.int .i64 a0_4) := (blk_cell BK275.out 4).trans rfl
            have hcz85_5 : wc.cell? ⟨gb275, 5, none⟩ = some (.int .i64 a0_5) := (blk_cell BK275.out 5).trans rfl
            have hcz85_6 : wc.cell? ⟨gb275, 6, none⟩ = some (.bool a0_6) := (blk_cell BK275.out 6).trans rfl
            have hcz85_7 : wc.cell? ⟨gb275, 7, none⟩ = some (.bool a0_7) := (blk_cell BK275.out 7).trans rfl
            have hcz85_8 : wc.cell? ⟨gb275, 8, none⟩ = some (.bool a0_8) := (blk_cell BK275.out 8).trans rfl
            have hfz85_0 := blk_frozen BK275.out 0
            have hfz85_1 := blk_frozen BK275.out 1
            have hfz85_2 := blk_frozen BK275.out 2
            have hfz85_3 := blk_frozen BK275.out 3
            have hfz85_4 := blk_frozen BK275.out 4
            have hfz85_5 := blk_frozen BK275.out 5
            have hfz85_6 := blk_frozen BK275.out 6
            have hfz85_7 := blk_frozen BK275.out 7
            have hfz85_8 := blk_frozen BK275.out 8
            go_upto_if 106 with (fail)
            go_cut [6] (fun v6 wc => ∃ (kq : Nat) (x6_83 : ByteArray), v6 = .string x6_83 ∧ Aside0 (spec_CookieText.j4 kq x6_83 a0_0 a0_1 a0_2 a0_3 a0_4 a0_5 a0_6 a0_7 a0_8 = some (r1, r2)) ∧ Aside0 (kq ≤ kj77) ∧ Aside0 (wc.heap[gb275]? = some (.cells #[.string a0_0, .string a0_1, .string a0_2, .string a0_3, .int .i64 a0_4, .int .i64 a0_5, .bool a0_6, .bool a0_7, .bool a0_8] 60 (0, 0))) ∧ Aside0 (Below w.heap.size w wc))
            case first =>
             have H := HC84.out
             clear HC84
             by_cases c86 : a0_6 = true
             ·
              subst c86
              have H1 : (if x6_77.size + 10 ≤ 9223372036854775807 then (spec_CookieText.j4 kj77 (x6_77 ++ (⟨#[59, 32, 72, 116, 116, 112, 79, 110, 108, 121]⟩ : ByteArray)) a0_0 a0_1 a0_2 a0_3 a0_4 a0_5 true a0_7 a0_8) else (none)) = some (r1, r2) := by rw [if_pos rfl] at H; exact H
              clear H
              have H := H1
              clear H1
              by_cases c87 : x6_77.size + 10 ≤ 9223372036854775807
              ·
               rw [if_pos c87] at H
               have c87b0 := eq_true c87
               have c87b1 : decide (x6_77.size + 10 ≤ 9223372036854775807) = true := decide_eq_true c87
               try have c87b2 : (9223372036854775807 < x6_77.size + 10) = False := eq_false (Nat.not_lt.2 c87)
               have H' := Aside0.mk H
               clear H
               go_wp2
               go_meet
               case rel => exact ⟨_, (x6_77 ++ (⟨#[59, 32, 72, 116, 116, 112, 79, 110, 108, 121]⟩ : ByteArray)), (by first | rfl | (simp; done) | (simp [*]; done) | (simp [Go.Proofs.YtfbllodbcmcndaaX.isEmpty_ne]; done)), H', ⟨by have := HJ2.out; have := HJ63.out; have := HJ71.out; have := HJ77.out; first | omega | exact Nat.le_refl _⟩, ⟨by (with_reducible repeat (first | refine blk_drewN ?_ _ | refine blk_drew ?_ | refine blk_alloc ?_ _)); exact BK275.out⟩, ⟨by repeat (first | (with_reducible first | exact HB.out | apply below_alloc | apply pw_below_drewN | apply below_drew1 | refine below_set ?_ GE275.out) | exact HB.out)⟩⟩
              ·
               rw [if_neg c87] at H
               exact absurd H (by simp)
             ·
              replace c86 := Bool.eq_false_iff.mpr c86
              subst c86
              have H1 : (spec_CookieText.j4 kj77 x6_77 a0_0 a0_1 a0_2 a0_3 a0_4 a0_5 false a0_7 a0_8) = some (r1, r2) := by rw [if_neg (show ¬ (false = true) by decide)] at H; exact H
              clear H
              have H := H1
              clear H1
              have H' := Aside0.mk H
              clear H
              go_wp2
              go_meet
              case rel => exact ⟨_, (x6_77), (by first | rfl | (simp; done) | (simp [*]; done) | (simp [Go.Proofs.YtfbllodbcmcndaaX.isEmpty_ne]; done)), H', ⟨by have := HJ2.out; have := HJ63.out; have := HJ71.out; have := HJ77.out; first | omega | exact Nat.le_refl _⟩, ⟨by (with_reducible repeat (first | refine blk_drewN ?_ _ | refine blk_drew ?_ | refine blk_alloc ?_ _)); exact BK275.out⟩, ⟨by repeat (first | (with_reducible first | exact HB.out | apply below_alloc | apply pw_below_drewN | apply below_drew1 | refine below_set ?_ GE275.out) | exact HB.out)⟩⟩
            case rest =>
             clear HC84
             try clear c2
             try clear p2
             try clear c3
             try clear c4
             try clear c5
             try clear c6
             try clear c7
             try clear c8
             try clear c26
             try clear c26b0
             try clear c28
             try clear c28b0
             try clear c35
             try clear c36
             try clear c36b0
             try clear c36b1
             try clear c37
             try clear c39
             try clear c39b0
             try clear c41
             try clear c41b0
             try clear c44
             try clear c44b0
             try clear c44b1
             try clear c45
             try clear c45b0
             try clear c45b1
             try clear c47
             try clear c47b0
             try clear c47b1
             try clear c48
             try clear c50
             try clear c50b0
             try clear c52
             try clear c52b0
             try clear c61
             try clear c62
             try clear c62b0
             try clear c62b1
             try clear c62b2
             try clear c63
             try clear c63b0
             try clear c63b1
             try clear c63b2
             try clear c64
             try clear c66
             try clear c66b0
             try clear c68
             try clear c68b0
             try clear c68b1
             try clear c68b2
             try clear c69
             try clear c69b0
             try clear c69b1
             try clear c69b2
             try clear c74
             try clear c74b0
             try clear c74b1
             try clear c75
             try clear c75b0
             try clear c75b1
             try clear c75b2
             try clear c76
             try clear c76b0
             try clear c76b1
             try clear c76b2
             try clear c80
             try clear c80b0
             try clear c80b1
             try clear c81
             try clear c81b0
             try clear c81b1
             try clear c81b2
             try clear c82
             try clear c82b0
             try clear c82b1
             try clear c82b2
             try clear c86
             try clear c87
             try clear c87b0
             try clear c87b1
             try clear c87b2
             try clear hcz27_1
             try clear hcz27_2
             try clear hcz27_3
             try clear hcz27_4
             try clear hcz27_5
             try clear hcz27_6
             try clear hcz27_7
             try clear hcz27_8
             try clear hcz29_0
             try clear hcz29_1
             try clear hcz29_2
             try clear hcz29_3
             try clear hcz29_4
             try clear hcz29_5
             try clear hcz29_6
             try clear hcz29_7
             try clear hcz29_8
             try clear hcz30_0
             try clear hcz30_1
             try clear hcz30_2
             try clear hcz30_3
             try clear hcz30_4
             try clear hcz30_5
             try clear hcz30_6
             try clear hcz30_7
             try clear hcz30_8
             try clear hcz31_0
             try clear hcz31_1
             try clear hcz31_2
             try clear hcz31_3
             try clear hcz31_4
             try clear hcz31_5
             try clear hcz31_6
             try clear hcz31_7
             try clear hcz31_8
             try clear hcz32_0
             try clear hcz32_1
             try clear hcz32_2
             try clear hcz32_3
             try clear hcz32_4
             try clear hcz32_5
             try clear hcz32_6
             try clear hcz32_7
             try clear hcz32_8
             try clear hcz33_0
             try clear hcz33_1
             try clear hcz33_2
             try clear hcz33_3
             try clear hcz33_4
             try clear hcz33_5
             try clear hcz33_6
             try clear hcz33_7
             try clear hcz33_8
             try clear hcz38_0
             try clear hcz38_1
             try clear hcz38_2
             try clear hcz38_3
             try clear hcz38_4
             try clear hcz38_5
             try clear hcz38_6
             try clear hcz38_7
             try clear hcz38_8
             try clear hcz40_0
             try clear hcz40_1
             try clear hcz40_2
             try clear hcz40_3
             try clear hcz40_4
             try clear hcz40_5
             try clear hcz40_6
             try clear hcz40_7
             try clear hcz40_8
             try clear hcz42_0
             try clear hcz42_1
             try clear hcz42_2
             try clear hcz42_3
             try clear hcz42_4
             try clear hcz42_5
             try clear hcz42_6
             try clear hcz42_7
             try clear hcz42_8
             try clear hcz43_0
             try clear hcz43_1
             try clear hcz43_2
             try clear hcz43_3
             try clear hcz43_4
             try clear hcz43_5
             try clear hcz43_6
             try clear hcz43_7
             try clear hcz43_8
             try clear hcz49_0
             try clear hcz49_1
             try clear hcz49_2
             try clear hcz49_3
             try clear hcz49_4
             try clear hcz49_5
             try clear hcz49_6
             try clear hcz49_7
             try clear hcz49_8
             try clear hcz51_0
             try clear hcz51_1
             try clear hcz51_2
             try clear hcz51_3
             try clear hcz51_4
             try clear hcz51_5
             try clear hcz51_6
             try clear hcz51_7
             try clear hcz51_8
             try clear hcz53_0
             try clear hcz53_1
             try clear hcz53_2
             try clear hcz53_3
             try clear hcz53_4
             try clear hcz53_5
             try clear hcz53_6
             try clear hcz53_7
             try clear hcz53_8
             try clear hcz54_0
             try clear hcz54_1
             try clear hcz54_2
             try clear hcz54_3
             try clear hcz54_4
             try clear hcz54_5
             try clear hcz54_6
             try clear hcz54_7
             try clear hcz54_8
             try clear hcz55_0
             try clear hcz55_1
             try clear hcz55_2
             try clear hcz55_3
             try clear hcz55_4
             try clear hcz55_5
             try clear hcz55_6
             try clear hcz55_7
             try clear hcz55_8
             try clear hcz56_0
             try clear hcz56_1
             try clear hcz56_2
             try clear hcz56_3
             try clear hcz56_4
             try clear hcz56_5
             try clear hcz56_6
             try clear hcz56_7
             try clear hcz56_8
             try clear hcz57_0
             try clear hcz57_1
             try clear hcz57_2
             try clear hcz57_3
             try clear hcz57_4
             try clear hcz57_5
             try clear hcz57_6
             try clear hcz57_7
             try clear hcz57_8
             try clear hcz58_0
             try clear hcz58_1
             try clear hcz58_2
             try clear hcz58_3
             try clear hcz58_4
             try clear hcz58_5
             try clear hcz58_6
             try clear hcz58_7
             try clear hcz58_8
             try clear hcz59_0
             try clear hcz59_1
             try clear hcz59_2
             try clear hcz59_3
             try clear hcz59_4
             try clear hcz59_5
             try clear hcz59_6
             try clear hcz59_7
             try clear hcz59_8
             try clear hcz60_0
             try clear hcz60_1
             try clear hcz60_2
             try clear hcz60_3
             try clear hcz60_4
             try clear hcz60_5
             try clear hcz60_6
             try clear hcz60_7
             try clear hcz60_8
             try clear hcz65_0
             try clear hcz65_1
             try clear hcz65_2
             try clear hcz65_3
             try clear hcz65_4
             try clear hcz65_5
             try clear hcz65_6
             try clear hcz65_7
             try clear hcz65_8
             try clear hcz70_0
             try clear hcz70_1
             try clear hcz70_2
             try clear hcz70_3
             try clear hcz70_4
             try clear hcz70_5
             try clear hcz70_6
             try clear hcz70_7
             try clear hcz70_8
             try clear hcz73_0
             try clear hcz73_1
             try clear hcz73_2
             try clear hcz73_3
             try clear hcz73_4
             try clear hcz73_5
             try clear hcz73_6
             try clear hcz73_7
             try clear hcz73_8
             try clear hcz77_0
             try clear hcz77_1
             try clear hcz77_2
             try clear hcz77_3
             try clear hcz77_4
             try clear hcz77_5
             try clear hcz77_6
             try clear hcz77_7
             try clear hcz77_8
             try clear hcz79_0
             try clear hcz79_1
             try clear hcz79_2
             try clear hcz79_3
             try clear hcz79_4
             try clear hcz79_5
             try clear hcz79_6
             try clear hcz79_7
             try clear hcz79_8
             try clear hcz83_0
             try clear hcz83_1
             try clear hcz83_2
             try clear hcz83_3
             try clear hcz83_4
             try clear hcz83_5
             try clear hcz83_6
             try clear hcz83_7
             try clear hcz83_8
             try clear hcz85_0
             try clear hcz85_1
             try clear hcz85_2
             try clear hcz85_3
             try clear hcz85_4
             try clear hcz85_5
             try clear hcz85_6
             try clear hcz85_7
             try clear hcz85_8
             try clear hfz27_0
             try clear hfz27_1
             try clear hfz27_2
             try clear hfz27_3
             try clear hfz27_4
             try clear hfz27_5
             try clear hfz27_6
             try clear hfz27_7
             try clear hfz27_8
             try clear hfz29_0
             try clear hfz29_1
             try clear hfz29_2
             try clear hfz29_3
             try clear hfz29_4
             try clear hfz29_5
             try clear hfz29_6
             try clear hfz29_7
             try clear hfz29_8
             try clear hfz30_0
             try clear hfz30_1
             try clear hfz30_2
             try clear hfz30_3
             try clear hfz30_4
             try clear hfz30_5
             try clear hfz30_6
             try clear hfz30_7
             try clear hfz30_8
             try clear hfz31_0
             try clear hfz31_1
             try clear hfz31_2
             try clear hfz31_3
             try clear hfz31_4
             try clear hfz31_5
             try clear hfz31_6
             try clear hfz31_7
             try clear hfz31_8
             try clear hfz32_0
             try clear hfz32_1
             try clear hfz32_2
             try clear hfz32_3
             try clear hfz32_4
             try clear hfz32_5
             try clear hfz32_6
             try clear hfz32_7
             try clear hfz32_8
             try clear hfz33_0
             try clear hfz33_1
             try clear hfz33_2
             try clear hfz33_3
             try clear hfz33_4
             try clear hfz33_5
             try clear hfz33_6
             try clear hfz33_7
             try clear hfz33_8
             try clear hfz38_0
             try clear hfz38_1
             try clear hfz38_2
             try clear hfz38_3
             try clear hfz38_4
             try clear hfz38_5
             try clear hfz38_6
             try clear hfz38_7
             try clear hfz38_8
             try clear hfz40_0
             try clear hfz40_1
             try clear hfz40_2
             try clear hfz40_3
             try clear hfz40_4
             try clear hfz40_5
             try clear hfz40_6
             try clear hfz40_7
             try clear hfz40_8
             try clear hfz42_0
             try clear hfz42_1
             try clear hfz42_2
             try clear hfz42_3
             try clear hfz42_4
             try clear hfz42_5
             try clear hfz42_6
             try clear hfz42_7
             try clear hfz42_8
             try clear hfz43_0
             try clear hfz43_1
             try clear hfz43_2
             try clear hfz43_3
             try clear hfz43_4
             try clear hfz43_5
             try clear hfz43_6
             try clear hfz43_7
             try clear hfz43_8
             try clear hfz49_0
             try clear hfz49_1
             try clear hfz49_2
             try clear hfz49_3
             try clear hfz49_4
             try clear hfz49_5
             try clear hfz49_6
             try clear hfz49_7
             try clear hfz49_8
             try clear hfz51_0
             try clear hfz51_1
             try clear hfz51_2
             try clear hfz51_3
             try clear hfz51_4
             try clear hfz51_5
             try clear hfz51_6
             try clear hfz51_7
             try clear hfz51_8
             try clear hfz53_0
             try clear hfz53_1
             try clear hfz53_2
             try clear hfz53_3
             try clear hfz53_4
             try clear hfz53_5
             try clear hfz53_6
             try clear hfz53_7
             try clear hfz53_8
             try clear hfz54_0
             try clear hfz54_1
             try clear hfz54_2
             try clear hfz54_3
             try clear hfz54_4
             try clear hfz54_5
             try clear hfz54_6
             try clear hfz54_7
             try clear hfz54_8
             try clear hfz55_0
             try clear hfz55_1
             try clear hfz55_2
             try clear hfz55_3
             try clear hfz55_4
             try clear hfz55_5
             try clear hfz55_6
             try clear hfz55_7
             try clear hfz55_8
             try clear hfz56_0
             try clear hfz56_1
             try clear hfz56_2
             try clear hfz56_3
             try clear hfz56_4
             try clear hfz56_5
             try clear hfz56_6
             try clear hfz56_7
             try clear hfz56_8
             try clear hfz57_0
             try clear hfz57_1
             try clear hfz57_2
             try clear hfz57_3
             try clear hfz57_4
             try clear hfz57_5
             try clear hfz57_6
             try clear hfz57_7
             try clear hfz57_8
             try clear hfz58_0
             try clear hfz58_1
             try clear hfz58_2
             try clear hfz58_3
             try clear hfz58_4
             try clear hfz58_5
             try clear hfz58_6
             try clear hfz58_7
             try clear hfz58_8
             try clear hfz59_0
             try clear hfz59_1
             try clear hfz59_2
             try clear hfz59_3
             try clear hfz59_4
             try clear hfz59_5
             try clear hfz59_6
             try clear hfz59_7
             try clear hfz59_8
             try clear hfz60_0
             try clear hfz60_1
             try clear hfz60_2
             try clear hfz60_3
             try clear hfz60_4
             try clear hfz60_5
             try clear hfz60_6
             try clear hfz60_7
             try clear hfz60_8
             try clear hfz65_0
             try clear hfz65_1
             try clear hfz65_2
             try clear hfz65_3
             try clear hfz65_4
             try clear hfz65_5
             try clear hfz65_6
             try clear hfz65_7
             try clear hfz65_8
             try clear hfz70_0
             try clear hfz70_1
             try clear hfz70_2
             try clear hfz70_3
             try clear hfz70_4
             try clear hfz70_5
             try clear hfz70_6
             try clear hfz70_7
             try clear hfz70_8
             try clear hfz73_0
             try clear hfz73_1
             try clear hfz73_2
             try clear hfz73_3
             try clear hfz73_4
             try clear hfz73_5
             try clear hfz73_6
             try clear hfz73_7
             try clear hfz73_8
             try clear hfz77_0
             try clear hfz77_1
             try clear hfz77_2
             try clear hfz77_3
             try clear hfz77_4
             try clear hfz77_5
             try clear hfz77_6
             try clear hfz77_7
             try clear hfz77_8
             try clear hfz79_0
             try clear hfz79_1
             try clear hfz79_2
             try clear hfz79_3
             try clear hfz79_4
             try clear hfz79_5
             try clear hfz79_6
             try clear hfz79_7
             try clear hfz79_8
             try clear hfz83_0
             try clear hfz83_1
             try clear hfz83_2
             try clear hfz83_3
             try clear hfz83_4
             try clear hfz83_5
             try clear hfz83_6
             try clear hfz83_7
             try clear hfz83_8
             try clear hfz85_0
             try clear hfz85_1
             try clear hfz85_2
             try clear hfz85_3
             try clear hfz85_4
             try clear hfz85_5
             try clear hfz85_6
             try clear hfz85_7
             try clear hfz85_8
             try clear p2
             obtain ⟨kq, x6_83, rfl, HA, HJ83, BK275, HB⟩ := hcut
             cases kq with
             | zero => exact absurd HA.out (by simp [spec_CookieText.j4])
             | succ kj83 =>
              have H := HA.out
              clear HA
              simp only [spec_CookieText.j4] at H
              have HC88 := Aside0.mk H
              clear H
              go_upto_region 13 with (fail)
              go_cut [115] (fun v115 wc => ∃ (kq : Nat) (x115_87 : Bool), v115 = .bool x115_87 ∧ Aside0 (spec_CookieText.j5 kq x6_83 x115_87 a0_0 a0_1 a0_2 a0_3 a0_4 a0_5 a0_6 a0_7 a0_8 = some (r1, r2)) ∧ Aside0 (kq ≤ kj83) ∧ Aside0 (wc.heap[gb275]? = some (.cells #[.string a0_0, .string a0_1, .string a0_2, .string a0_3, .int .i64 a0_4, .int .i64 a0_5, .bool a0_6, .bool a0_7, .bool a0_8] 60 (0, 0))) ∧ Aside0 (Below w.heap.size w wc))
              case first =>
               have H := HC88.out
               clear HC88
               by_cases c89 : a0_7 = true
               ·
                subst c89
                have H1 : (spec_CookieText.j5 kj83 x6_83 true a0_0 a0_1 a0_2 a0_3 a0_4 a0_5 a0_6 true a0_8) = some (r1, r2) := by rw [if_pos rfl] at H; exact H
                clear H
                have H := H1
                clear H1
                have H' := Aside0.mk H
                clear H
                have hcz90_0 : wc.cell? ⟨gb275, 0, none⟩ = some (.string a0_0) := (blk_cell BK275.out 0).trans rfl
                have hcz90_1 : wc.cell? ⟨gb275, 1, none⟩ = some (.string a0_1) := (blk_cell BK275.out 1).trans rfl
                have hcz90_2 : wc.cell? ⟨gb275, 2, none⟩ = some (.string a0_2) := (blk_cell BK275.out 2).trans rfl
                have hcz90_3 : wc.cell? ⟨gb275, 3, none⟩ = some (.string a0_3) := (blk_cell BK275.out 3).trans rfl
                have hcz90_4 : wc.cell? ⟨gb275, 4, none⟩ = some (.int .i64 a0_4) := (blk_cell BK275.out 4).trans rfl
                have hcz90_5 : wc.cell? ⟨gb275, 5, none⟩ = some (.int .i64 a0_5) := (blk_cell BK275.out 5).trans rfl
                have hcz90_6 : wc.cell? ⟨gb275, 6, none⟩ = some (.bool a0_6) := (blk_cell BK275.out 6).trans rfl
                have hcz90_7 : wc.cell? ⟨gb275, 7, none⟩ = some (.bool true) := (blk_cell BK275.out 7).trans rfl
                have hcz90_8 : wc.cell? ⟨gb275, 8, none⟩ = some (.bool a0_8) := (blk_cell BK275.out 8).trans rfl
                have hfz90_0 := blk_frozen BK275.out 0
                have hfz90_1 := blk_frozen BK275.out 1
                have hfz90_2 := blk_frozen BK275.out 2
                have hfz90_3 := blk_frozen BK275.out 3
                have hfz90_4 := blk_frozen BK275.out 4
                have hfz90_5 := blk_frozen BK275.out 5
                have hfz90_6 := blk_frozen BK275.out 6
                have hfz90_7 := blk_frozen BK275.out 7
                have hfz90_8 := blk_frozen BK275.out 8
                go_wp2
                go_meet
                case rel => exact ⟨_, (true), (by first | rfl | (simp; done) | (simp [*]; done) | (simp [Go.Proofs.YtfbllodbcmcndaaX.isEmpty_ne]; done)), H', ⟨by have := HJ2.out; have := HJ63.out; have := HJ71.out; have := HJ77.out; have := HJ83.out; first | omega | exact Nat.le_refl _⟩, ⟨by (with_reducible repeat (first | refine blk_drewN ?_ _ | refine blk_drew ?_ | refine blk_alloc ?_ _)); exact BK275.out⟩, ⟨by repeat (first | (with_reducible first | exact HB.out | apply below_alloc | apply pw_below_drewN | apply below_drew1 | refine below_set ?_ GE275.out) | exact HB.out)⟩⟩
               ·
                replace c89 := Bool.eq_false_iff.mpr c89
                subst c89
                have H1 : (spec_CookieText.j5 kj83 x6_83 (a0_5 == 4) a0_0 a0_1 a0_2 a0_3 a0_4 a0_5 a0_6 false a0_8) = some (r1, r2) := by rw [if_neg (show ¬ (false = true) by decide)] at H; exact H
                clear H
                have H := H1
                clear H1
                have H' := Aside0.mk H
                clear H
                have hcz91_0 : wc.cell? ⟨gb275, 0, none⟩ = some (.string a0_0) := (blk_cell BK275.out 0).trans rfl
                have hcz91_1 : wc.cell? ⟨gb275, 1, none⟩ = some (.string a0_1) := (blk_cell BK275.out 1).trans rfl
                have hcz91_2 : wc.cell? ⟨gb275, 2, none⟩ = some (.string a0_2) := (blk_cell BK275.out 2).trans rfl
                have hcz91_3 : wc.cell? ⟨gb275, 3, none⟩ = some (.string a0_3) := (blk_cell BK275.out 3).trans rfl
                have hcz91_4 : wc.cell? ⟨gb275, 4, none⟩ = some (.int .i64 a0_4) := (blk_cell BK275.out 4).trans rfl
                have hcz91_5 : wc.cell? ⟨gb275, 5, none⟩ = some (.int .i64 a0_5) := (blk_cell BK275.out 5).trans rfl
                have hcz91_6 : wc.cell? ⟨gb275, 6, none⟩ = some (.bool a0_6) := (blk_cell BK275.out 6).trans rfl
                have hcz91_7 : wc.cell? ⟨gb275, 7, none⟩ = some (.bool false) := (blk_cell BK275.out 7).trans rfl
                have hcz91_8 : wc.cell? ⟨gb275, 8, none⟩ = some (.bool a0_8) := (blk_cell BK275.out 8).trans rfl
                have hfz91_0 := blk_frozen BK275.out 0
                have hfz91_1 := blk_frozen BK275.out 1
                have hfz91_2 := blk_frozen BK275.out 2
                have hfz91_3 := blk_frozen BK275.out 3
                have hfz91_4 := blk_frozen BK275.out 4
                have hfz91_5 := blk_frozen BK275.out 5
                have hfz91_6 := blk_frozen BK275.out 6
                have hfz91_7 := blk_frozen BK275.out 7
                have hfz91_8 := blk_frozen BK275.out 8
                go_wp2
                go_meet
                case rel => exact ⟨_, ((a0_5 == 4)), (by first | rfl | (simp; done) | (simp [*]; done) | (simp [Go.Proofs.YtfbllodbcmcndaaX.isEmpty_ne]; done)), H', ⟨by have := HJ2.out; have := HJ63.out; have := HJ71.out; have := HJ77.out; have := HJ83.out; first | omega | exact Nat.le_refl _⟩, ⟨by (with_reducible repeat (first | refine blk_drewN ?_ _ | refine blk_drew ?_ | refine blk_alloc ?_ _)); exact BK275.out⟩, ⟨by repeat (first | (with_reducible first | exact HB.out | apply below_alloc | apply pw_below_drewN | apply below_drew1 | refine below_set ?_ GE275.out) | exact HB.out)⟩⟩
              case rest =>
               clear HC88
               try clear p2
               try clear c6
               try clear c7
               try clear c8
               try clear c63
               try clear c63b1
               try clear c63b2
               try clear c64
               try clear c66
               try clear c66b0
               try clear c68
               try clear c68b0
               try clear c68b1
               try clear c68b2
               try clear c69
               try clear c69b0
               try clear c69b1
               try clear c69b2
               try clear c74
               try clear c74b0
               try clear c74b1
               try clear c75
               try clear c75b0
               try clear c75b1
               try clear c75b2
               try clear c76
               try clear c76b0
               try clear c76b1
               try clear c76b2
               try clear c80
               try clear c80b0
               try clear c80b1
               try clear c81
               try clear c81b0
               try clear c81b1
               try clear c81b2
               try clear c82
               try clear c82b0
               try clear c82b1
               try clear c82b2
               try clear c86
               try clear c87
               try clear c87b0
               try clear c87b1
               try clear c87b2
               try clear c89
               try clear hcz27_1
               try clear hcz27_2
               try clear hcz27_3
               try clear hcz27_4
               try clear hcz27_5
               try clear hcz27_6
               try clear hcz27_7
               try clear hcz27_8
               try clear hcz29_0
               try clear hcz29_1
               try clear hcz29_2
               try clear hcz29_3
               try clear hcz29_4
               try clear hcz29_5
               try clear hcz29_6
               try clear hcz29_7
               try clear hcz29_8
               try clear hcz30_0
               try clear hcz30_1
               try clear hcz30_2
               try clear hcz30_3
               try clear hcz30_4
               try clear hcz30_5
               try clear hcz30_6
               try clear hcz30_7
               try clear hcz30_8
               try clear hcz31_0
               try clear hcz31_1
               try clear hcz31_2
               try clear hcz31_3
               try clear hcz31_4
               try clear hcz31_5
               try clear hcz31_6
               try clear hcz31_7
               try clear hcz31_8
               try clear hcz32_0
               try clear hcz32_1
               try clear hcz32_2
               try clear hcz32_3
               try clear hcz32_4
               try clear hcz32_5
               try clear hcz32_6
               try clear hcz32_7
               try clear hcz32_8
               try clear hcz33_0
               try clear hcz33_1
               try clear hcz33_2
               try clear hcz33_3
               try clear hcz33_4
               try clear hcz33_5
               try clear hcz33_6
               try clear hcz33_7
               try clear hcz33_8
               try clear hcz38_0
               try clear hcz38_1
               try clear hcz38_2
               try clear hcz38_3
               try clear hcz38_4
               try clear hcz38_5
               try clear hcz38_6
               try clear hcz38_7
               try clear hcz38_8
               try clear hcz40_0
               try clear hcz40_1
               try clear hcz40_2
               try clear hcz40_3
               try clear hcz40_4
               try clear hcz40_5
               try clear hcz40_6
               try clear hcz40_7
               try clear hcz40_8
               try clear hcz42_0
               try clear hcz42_1
               try clear hcz42_2
               try clear hcz42_3
               try clear hcz42_4
               try clear hcz42_5
               try clear hcz42_6
               try clear hcz42_7
               try clear hcz42_8
               try clear hcz43_0
               try clear hcz43_1
               try clear hcz43_2
               try clear hcz43_3
               try clear hcz43_4
               try clear hcz43_5
               try clear hcz43_6
               try clear hcz43_7
               try clear hcz43_8
               try clear hcz49_0
               try clear hcz49_1
               try clear hcz49_2
               try clear hcz49_3
               try clear hcz49_4
               try clear hcz49_5
               try clear hcz49_6
               try clear hcz49_7
               try clear hcz49_8
               try clear hcz51_0
               try clear hcz51_1
               try clear hcz51_2
               try clear hcz51_3
               try clear hcz51_4
               try clear hcz51_5
               try clear hcz51_6
               try clear hcz51_7
               try clear hcz51_8
               try clear hcz53_0
               try clear hcz53_1
               try clear hcz53_2
               try clear hcz53_3
               try clear hcz53_4
               try clear hcz53_5
               try clear hcz53_6
               try clear hcz53_7
               try clear hcz53_8
               try clear hcz54_0
               try clear hcz54_1
               try clear hcz54_2
               try clear hcz54_3
               try clear hcz54_4
               try clear hcz54_5
               try clear hcz54_6
               try clear hcz54_7
               try clear hcz54_8
               try clear hcz55_0
               try clear hcz55_1
               try clear hcz55_2
               try clear hcz55_3
               try clear hcz55_4
               try clear hcz55_5
               try clear hcz55_6
               try clear hcz55_7
               try clear hcz55_8
               try clear hcz56_0
               try clear hcz56_1
               try clear hcz56_2
               try clear hcz56_3
               try clear hcz56_4
               try clear hcz56_5
               try clear hcz56_6
               try clear hcz56_7
               try clear hcz56_8
               try clear hcz57_0
               try clear hcz57_1
               try clear hcz57_2
               try clear hcz57_3
               try clear hcz57_4
               try clear hcz57_5
               try clear hcz57_6
               try clear hcz57_7
               try clear hcz57_8
               try clear hcz58_0
               try clear hcz58_1
               try clear hcz58_2
               try clear hcz58_3
               try clear hcz58_4
               try clear hcz58_5
               try clear hcz58_6
               try clear hcz58_7
               try clear hcz58_8
               try clear hcz59_0
               try clear hcz59_1
               try clear hcz59_2
               try clear hcz59_3
               try clear hcz59_4
               try clear hcz59_5
               try clear hcz59_6
               try clear hcz59_7
               try clear hcz59_8
               try clear hcz60_0
               try clear hcz60_1
               try clear hcz60_2
               try clear hcz60_3
               try clear hcz60_4
               try clear hcz60_5
               try clear hcz60_6
               try clear hcz60_7
               try clear hcz60_8
               try clear hcz65_0
               try clear hcz65_1
               try clear hcz65_2
               try clear hcz65_3
               try clear hcz65_4
               try clear hcz65_5
               try clear hcz65_6
               try clear hcz65_7
               try clear hcz65_8
               try clear hcz70_0
               try clear hcz70_1
               try clear hcz70_2
               try clear hcz70_3
               try clear hcz70_4
               try clear hcz70_5
               try clear hcz70_6
               try clear hcz70_7
               try clear hcz70_8
               try clear hcz73_0
               try clear hcz73_1
               try clear hcz73_2
               try clear hcz73_3
               try clear hcz73_4
               try clear hcz73_5
               try clear hcz73_6
               try clear hcz73_7
               try clear hcz73_8
               try clear hcz77_0
               try clear hcz77_1
               try clear hcz77_2
               try clear hcz77_3
               try clear hcz77_4
               try clear hcz77_5
               try clear hcz77_6
               try clear hcz77_7
               try clear hcz77_8
               try clear hcz79_0
               try clear hcz79_1
               try clear hcz79_2
               try clear hcz79_3
               try clear hcz79_4
               try clear hcz79_5
               try clear hcz79_6
               try clear hcz79_7
               try clear hcz79_8
               try clear hcz83_0
               try clear hcz83_1
               try clear hcz83_2
               try clear hcz83_3
               try clear hcz83_4
               try clear hcz83_5
               try clear hcz83_6
               try clear hcz83_7
               try clear hcz83_8
               try clear hcz85_0
               try clear hcz85_1
               try clear hcz85_2
               try clear hcz85_3
               try clear hcz85_4
               try clear hcz85_5
               try clear hcz85_6
               try clear hcz85_7
               try clear hcz85_8
               try clear hcz90_0
               try clear hcz90_1
               try clear hcz90_2
               try clear hcz90_3
               try clear hcz90_4
               try clear hcz90_5
               try clear hcz90_6
               try clear hcz90_7
               try clear hcz90_8
               try clear hcz91_0
               try clear hcz91_1
               try clear hcz91_2
               try clear hcz91_3
               try clear hcz91_4
               try clear hcz91_5
               try clear hcz91_6
               try clear hcz91_7
               try clear hcz91_8
               try clear hfz27_0
               try clear hfz27_1
               try clear hfz27_2
               try clear hfz27_3
               try clear hfz27_4
               try clear hfz27_5
               try clear hfz27_6
               try clear hfz27_7
               try clear hfz27_8
               try clear hfz29_0
               try clear hfz29_1
               try clear hfz29_2
               try clear hfz29_3
               try clear hfz29_4
               try clear hfz29_5
               try clear hfz29_6
               try clear hfz29_7
               try clear hfz29_8
               try clear hfz30_0
               try clear hfz30_1
               try clear hfz30_2
               try clear hfz30_3
               try clear hfz30_4
               try clear hfz30_5
               try clear hfz30_6
               try clear hfz30_7
               try clear hfz30_8
               try clear hfz31_0
               try clear hfz31_1
               try clear hfz31_2
               try clear hfz31_3
               try clear hfz31_4
               try clear hfz31_5
               try clear hfz31_6
               try clear hfz31_7
               try clear hfz31_8
               try clear hfz32_0
               try clear hfz32_1
               try clear hfz32_2
               try clear hfz32_3
               try clear hfz32_4
               try clear hfz32_5
               try clear hfz32_6
               try clear hfz32_7
               try clear hfz32_8
               try clear hfz33_0
               try clear hfz33_1
               try clear hfz33_2
               try clear hfz33_3
               try clear hfz33_4
               try clear hfz33_5
               try clear hfz33_6
               try clear hfz33_7
               try clear hfz33_8
               try clear hfz38_0
               try clear hfz38_1
               try clear hfz38_2
               try clear hfz38_3
               try clear hfz38_4
               try clear hfz38_5
               try clear hfz38_6
               try clear hfz38_7
               try clear hfz38_8
               try clear hfz40_0
               try clear hfz40_1
               try clear hfz40_2
               try clear hfz40_3
               try clear hfz40_4
               try clear hfz40_5
               try clear hfz40_6
               try clear hfz40_7
               try clear hfz40_8
               try clear hfz42_0
               try clear hfz42_1
               try clear hfz42_2
               try clear hfz42_3
               try clear hfz42_4
               try clear hfz42_5
               try clear hfz42_6
               try clear hfz42_7
               try clear hfz42_8
               try clear hfz43_0
               try clear hfz43_1
               try clear hfz43_2
               try clear hfz43_3
               try clear hfz43_4
               try clear hfz43_5
               try clear hfz43_6
               try clear hfz43_7
               try clear hfz43_8
               try clear hfz49_0
               try clear hfz49_1
               try clear hfz49_2
               try clear hfz49_3
               try clear hfz49_4
               try clear hfz49_5
               try clear hfz49_6
               try clear hfz49_7
               try clear hfz49_8
               try clear hfz51_0
               try clear hfz51_1
               try clear hfz51_2
               try clear hfz51_3
               try clear hfz51_4
               try clear hfz51_5
               try clear hfz51_6
               try clear hfz51_7
               try clear hfz51_8
               try clear hfz53_0
               try clear hfz53_1
               try clear hfz53_2
               try clear hfz53_3
               try clear hfz53_4
               try clear hfz53_5
               try clear hfz53_6
               try clear hfz53_7
               try clear hfz53_8
               try clear hfz54_0
               try clear hfz54_1
               try clear hfz54_2
               try clear hfz54_3
               try clear hfz54_4
               try clear hfz54_5
               try clear hfz54_6
               try clear hfz54_7
               try clear hfz54_8
               try clear hfz55_0
               try clear hfz55_1
               try clear hfz55_2
               try clear hfz55_3
               try clear hfz55_4
               try clear hfz55_5
               try clear hfz55_6
               try clear hfz55_7
               try clear hfz55_8
               try clear hfz56_0
               try clear hfz56_1
               try clear hfz56_2
               try clear hfz56_3
               try clear hfz56_4
               try clear hfz56_5
               try clear hfz56_6
               try clear hfz56_7
               try clear hfz56_8
               try clear hfz57_0
               try clear hfz57_1
               try clear hfz57_2
               try clear hfz57_3
               try clear hfz57_4
               try clear hfz57_5
               try clear hfz57_6
               try clear hfz57_7
               try clear hfz57_8
               try clear hfz58_0
               try clear hfz58_1
               try clear hfz58_2
               try clear hfz58_3
               try clear hfz58_4
               try clear hfz58_5
               try clear hfz58_6
               try clear hfz58_7
               try clear hfz58_8
               try clear hfz59_0
               try clear hfz59_1
               try clear hfz59_2
               try clear hfz59_3
               try clear hfz59_4
               try clear hfz59_5
               try clear hfz59_6
               try clear hfz59_7
               try clear hfz59_8
               try clear hfz60_0
               try clear hfz60_1
               try clear hfz60_2
               try clear hfz60_3
               try clear hfz60_4
               try clear hfz60_5
               try clear hfz60_6
               try clear hfz60_7
               try clear hfz60_8
               try clear hfz65_0
               try clear hfz65_1
               try clear hfz65_2
               try clear hfz65_3
               try clear hfz65_4
               try clear hfz65_5
               try clear hfz65_6
               try clear hfz65_7
               try clear hfz65_8
               try clear hfz70_0
               try clear hfz70_1
               try clear hfz70_2
               try clear hfz70_3
               try clear hfz70_4
               try clear hfz70_5
               try clear hfz70_6
               try clear hfz70_7
               try clear hfz70_8
               try clear hfz73_0
               try clear hfz73_1
               try clear hfz73_2
               try clear hfz73_3
               try clear hfz73_4
               try clear hfz73_5
               try clear hfz73_6
               try clear hfz73_7
               try clear hfz73_8
               try clear hfz77_0
               try clear hfz77_1
               try clear hfz77_2
               try clear hfz77_3
               try clear hfz77_4
               try clear hfz77_5
               try clear hfz77_6
               try clear hfz77_7
               try clear hfz77_8
               try clear hfz79_0
               try clear hfz79_1
               try clear hfz79_2
               try clear hfz79_3
               try clear hfz79_4
               try clear hfz79_5
               try clear hfz79_6
               try clear hfz79_7
               try clear hfz79_8
               try clear hfz83_0
               try clear hfz83_1
               try clear hfz83_2
               try clear hfz83_3
               try clear hfz83_4
               try clear hfz83_5
               try clear hfz83_6
               try clear hfz83_7
               try clear hfz83_8
               try clear hfz85_0
               try clear hfz85_1
               try clear hfz85_2
               try clear hfz85_3
               try clear hfz85_4
               try clear hfz85_5
               try clear hfz85_6
               try clear hfz85_7
               try clear hfz85_8
               try clear hfz90_0
               try clear hfz90_1
               try clear hfz90_2
               try clear hfz90_3
               try clear hfz90_4
               try clear hfz90_5
               try clear hfz90_6
               try clear hfz90_7
               try clear hfz90_8
               try clear hfz91_0
               try clear hfz91_1
               try clear hfz91_2
               try clear hfz91_3
               try clear hfz91_4
               try clear hfz91_5
               try clear hfz91_6
               try clear hfz91_7
               try clear hfz91_8
               try clear p2
               obtain ⟨kq, x115_87, rfl, HA, HJ87, BK275, HB⟩ := hcut
               cases kq with
               | zero => exact absurd HA.out (by simp [spec_CookieText.j5])
               | succ kj87 =>
                have H := HA.out
                clear HA
                simp only [spec_CookieText.j5] at H
                have HC92 := Aside0.mk H
                clear H
                go_upto_if 115 with (fail)
                go_cut [6] (fun v6 wc => ∃ (kq : Nat) (x6_91 : ByteArray), v6 = .string x6_91 ∧ Aside0 (spec_CookieText.j6 kq x6_91 a0_0 a0_1 a0_2 a0_3 a0_4 a0_5 a0_6 a0_7 a0_8 = some (r1, r2)) ∧ Aside0 (kq ≤ kj87) ∧ Aside0 (wc.heap[gb275]? = some (.cells #[.string a0_0, .string a0_1, .string a0_2, .string a0_3, .int .i64 a0_4, .int .i64 a0_5, .bool a0_6, .bool a0_7, .bool a0_8] 60 (0, 0))) ∧ Aside0 (Below w.heap.size w wc))
                case first =>
                 have H := HC92.out
                 clear HC92
                 by_cases c93 : x115_87 = true
                 ·
                  subst c93
                  have H1 : (if x6_83.size + 8 ≤ 9223372036854775807 then (spec_CookieText.j6 kj87 (x6_83 ++ (⟨#[59, 32, 115, 101, 99, 117, 114, 101]⟩ : ByteArray)) a0_0 a0_1 a0_2 a0_3 a0_4 a0_5 a0_6 a0_7 a0_8) else (none)) = some (r1, r2) := by rw [if_pos rfl] at H; exact H
                  clear H
                  have H := H1
                  clear H1
                  by_cases c94 : x6_83.size + 8 ≤ 9223372036854775807
                  ·
                   rw [if_pos c94] at H
                   have c94b0 := eq_true c94
                   have c94b1 : decide (x6_83.size + 8 ≤ 9223372036854775807) = true := decide_eq_true c94
                   try have c94b2 : (9223372036854775807 < x6_83.size + 8) = False := eq_false (Nat.not_lt.2 c94)
                   have H' := Aside0.mk H
                   clear H
                   go_wp2
                   go_meet
                   case rel => exact ⟨_, (x6_83 ++ (⟨#[59, 32, 115, 101, 99, 117, 114, 101]⟩ : ByteArray)), (by first | rfl | (simp; done) | (simp [*]; done) | (simp [Go.Proofs.YtfbllodbcmcndaaX.isEmpty_ne]; done)), H', ⟨by have := HJ2.out; have := HJ63.out; have := HJ71.out; have := HJ77.out; have := HJ83.out; have := HJ87.out; first | omega | exact Nat.le_refl _⟩, ⟨by (with_reducible repeat (first | refine blk_drewN ?_ _ | refine blk_drew ?_ | refine blk_alloc ?_ _)); exact BK275.out⟩, ⟨by repeat (first | (with_reducible first | exact HB.out | apply below_alloc | apply pw_below_drewN | apply below_drew1 | refine below_set ?_ GE275.out) | exact HB.out)⟩⟩
                  ·
                   rw [if_neg c94] at H
                   exact absurd H (by simp)
                 ·
                  replace c93 := Bool.eq_false_iff.mpr c93
                  subst c93
                  have H1 : (spec_CookieText.j6 kj87 x6_83 a0_0 a0_1 a0_2 a0_3 a0_4 a0_5 a0_6 a0_7 a0_8) = some (r1, r2) := by rw [if_neg (show ¬ (false = true) by decide)] at H; exact H
                  clear H
                  have H := H1
                  clear H1
                  have H' := Aside0.mk H
                  clear H
                  go_wp2
                  go_meet
                  case rel => exact ⟨_, (x6_83), (by first | rfl | (simp; done) | (simp [*]; done) | (simp [Go.Proofs.YtfbllodbcmcndaaX.isEmpty_ne]; done)), H', ⟨by have := HJ2.out; have := HJ63.out; have := HJ71.out; have := HJ77.out; have := HJ83.out; have := HJ87.out; first | omega | exact Nat.le_refl _⟩, ⟨by (with_reducible repeat (first | refine blk_drewN ?_ _ | refine blk_drew ?_ | refine blk_alloc ?_ _)); exact BK275.out⟩, ⟨by repeat (first | (with_reducible first | exact HB.out | apply below_alloc | apply pw_below_drewN | apply below_drew1 | refine below_set ?_ GE275.out) | exact HB.out)⟩⟩
                case rest =>
                 clear HC92
                 try clear p2
                 try clear c6
                 try clear c7
                 try clear c8
                 try clear c9
                 try clear c68
                 try clear c68b2
                 try clear c69
                 try clear c69b0
                 try clear c69b1
                 try clear c69b2
                 try clear c74
                 try clear c74b0
                 try clear c74b1
                 try clear c75
                 try clear c75b0
                 try clear c75b1
                 try clear c75b2
                 try clear c76
                 try clear c76b0
                 try clear c76b1
                 try clear c76b2
                 try clear c80
                 try clear c80b0
                 try clear c80b1
                 try clear c81
                 try clear c81b0
                 try clear c81b1
                 try clear c81b2
                 try clear c82
                 try clear c82b0
                 try clear c82b1
                 try clear c82b2
                 try clear c86
                 try clear c87
                 try clear c87b0
                 try clear c87b1
                 try clear c87b2
                 try clear c89
                 try clear c93
                 try clear c94
                 try clear c94b0
                 try clear c94b1
                 try clear c94b2
                 try clear hcz27_1
                 try clear hcz27_2
                 try clear hcz27_3
                 try clear hcz27_4
                 try clear hcz27_5
                 try clear hcz27_6
                 try clear hcz27_7
                 try clear hcz27_8
                 try clear hcz29_0
                 try clear hcz29_1
                 try clear hcz29_2
                 try clear hcz29_3
                 try clear hcz29_4
                 try clear hcz29_5
                 try clear hcz29_6
                 try clear hcz29_7
                 try clear hcz29_8
                 try clear hcz30_0
                 try clear hcz30_1
                 try clear hcz30_2
                 try clear hcz30_3
                 try clear hcz30_4
                 try clear hcz30_5
                 try clear hcz30_6
                 try clear hcz30_7
                 try clear hcz30_8
                 try clear hcz31_0
                 try clear hcz31_1
                 try clear hcz31_2
                 try clear hcz31_3
                 try clear hcz31_4
                 try clear hcz31_5
                 try clear hcz31_6
                 try clear hcz31_7
                 try clear hcz31_8
                 try clear hcz32_0
                 try clear hcz32_1
                 try clear hcz32_2
                 try clear hcz32_3
                 try clear hcz32_4
                 try clear hcz32_5
                 try clear hcz32_6
                 try clear hcz32_7
                 try clear hcz32_8
                 try clear hcz33_0
                 try clear hcz33_1
                 try clear hcz33_2
                 try clear hcz33_3
                 try clear hcz33_4
                 try clear hcz33_5
                 try clear hcz33_6
                 try clear hcz33_7
                 try clear hcz33_8
                 try clear hcz38_0
                 try clear hcz38_1
                 try clear hcz38_2
                 try clear hcz38_3
                 try clear hcz38_4
                 try clear hcz38_5
                 try clear hcz38_6
                 try clear hcz38_7
                 try clear hcz38_8
                 try clear hcz40_0
                 try clear hcz40_1
                 try clear hcz40_2
                 try clear hcz40_3
                 try clear hcz40_4
                 try clear hcz40_5
                 try clear hcz40_6
                 try clear hcz40_7
                 try clear hcz40_8
                 try clear hcz42_0
                 try clear hcz42_1
                 try clear hcz42_2
                 try clear hcz42_3
                 try clear hcz42_4
                 try clear hcz42_5
                 try clear hcz42_6
                 try clear hcz42_7
                 try clear hcz42_8
                 try clear hcz43_0
                 try clear hcz43_1
                 try clear hcz43_2
                 try clear hcz43_3
                 try clear hcz43_4
                 try clear hcz43_5
                 try clear hcz43_6
                 try clear hcz43_7
                 try clear hcz43_8
                 try clear hcz49_0
                 try clear hcz49_1
                 try clear hcz49_2
                 try clear hcz49_3
                 try clear hcz49_4
                 try clear hcz49_5
                 try clear hcz49_6
                 try clear hcz49_7
                 try clear hcz49_8
                 try clear hcz51_0
                 try clear hcz51_1
                 try clear hcz51_2
                 try clear hcz51_3
                 try clear hcz51_4
                 try clear hcz51_5
                 try clear hcz51_6
                 try clear hcz51_7
                 try clear hcz51_8
                 try clear hcz53_0
                 try clear hcz53_1
                 try clear hcz53_2
                 try clear hcz53_3
                 try clear hcz53_4
                 try clear hcz53_5
                 try clear hcz53_6
                 try clear hcz53_7
                 try clear hcz53_8
                 try clear hcz54_0
                 try clear hcz54_1
                 try clear hcz54_2
                 try clear hcz54_3
                 try clear hcz54_4
                 try clear hcz54_5
                 try clear hcz54_6
                 try clear hcz54_7
                 try clear hcz54_8
                 try clear hcz55_0
                 try clear hcz55_1
                 try clear hcz55_2
                 try clear hcz55_3
                 try clear hcz55_4
                 try clear hcz55_5
                 try clear hcz55_6
                 try clear hcz55_7
                 try clear hcz55_8
                 try clear hcz56_0
                 try clear hcz56_1
                 try clear hcz56_2
                 try clear hcz56_3
                 try clear hcz56_4
                 try clear hcz56_5
                 try clear hcz56_6
                 try clear hcz56_7
                 try clear hcz56_8
                 try clear hcz57_0
                 try clear hcz57_1
                 try clear hcz57_2
                 try clear hcz57_3
                 try clear hcz57_4
                 try clear hcz57_5
                 try clear hcz57_6
                 try clear hcz57_7
                 try clear hcz57_8
                 try clear hcz58_0
                 try clear hcz58_1
                 try clear hcz58_2
                 try clear hcz58_3
                 try clear hcz58_4
                 try clear hcz58_5
                 try clear hcz58_6
                 try clear hcz58_7
                 try clear hcz58_8
                 try clear hcz59_0
                 try clear hcz59_1
                 try clear hcz59_2
                 try clear hcz59_3
                 try clear hcz59_4
                 try clear hcz59_5
                 try clear hcz59_6
                 try clear hcz59_7
                 try clear hcz59_8
                 try clear hcz60_0
                 try clear hcz60_1
                 try clear hcz60_2
                 try clear hcz60_3
                 try clear hcz60_4
                 try clear hcz60_5
                 try clear hcz60_6
                 try clear hcz60_7
                 try clear hcz60_8
                 try clear hcz65_0
                 try clear hcz65_1
                 try clear hcz65_2
                 try clear hcz65_3
                 try clear hcz65_4
                 try clear hcz65_5
                 try clear hcz65_6
                 try clear hcz65_7
                 try clear hcz65_8
                 try clear hcz70_0
                 try clear hcz70_1
                 try clear hcz70_2
                 try clear hcz70_3
                 try clear hcz70_4
                 try clear hcz70_5
                 try clear hcz70_6
                 try clear hcz70_7
                 try clear hcz70_8
                 try clear hcz73_0
                 try clear hcz73_1
                 try clear hcz73_2
                 try clear hcz73_3
                 try clear hcz73_4
                 try clear hcz73_5
                 try clear hcz73_6
                 try clear hcz73_7
                 try clear hcz73_8
                 try clear hcz77_0
                 try clear hcz77_1
                 try clear hcz77_2
                 try clear hcz77_3
                 try clear hcz77_4
                 try clear hcz77_5
                 try clear hcz77_6
                 try clear hcz77_7
                 try clear hcz77_8
                 try clear hcz79_0
                 try clear hcz79_1
                 try clear hcz79_2
                 try clear hcz79_3
                 try clear hcz79_4
                 try clear hcz79_5
                 try clear hcz79_6
                 try clear hcz79_7
                 try clear hcz79_8
                 try clear hcz83_0
                 try clear hcz83_1
                 try clear hcz83_2
                 try clear hcz83_3
                 try clear hcz83_4
                 try clear hcz83_5
                 try clear hcz83_6
                 try clear hcz83_7
                 try clear hcz83_8
                 try clear hcz85_0
                 try clear hcz85_1
                 try clear hcz85_2
                 try clear hcz85_3
                 try clear hcz85_4
                 try clear hcz85_5
                 try clear hcz85_6
                 try clear hcz85_7
                 try clear hcz85_8
                 try clear hcz90_0
                 try clear hcz90_1
                 try clear hcz90_2
                 try clear hcz90_3
                 try clear hcz90_4
                 try clear hcz90_5
                 try clear hcz90_6
                 try clear hcz90_7
                 try clear hcz90_8
                 try clear hcz91_0
                 try clear hcz91_1
                 try clear hcz91_2
                 try clear hcz91_3
                 try clear hcz91_4
                 try clear hcz91_5
                 try clear hcz91_6
                 try clear hcz91_7
                 try clear hcz91_8
                 try clear hfz27_0
                 try clear hfz27_1
                 try clear hfz27_2
                 try clear hfz27_3
                 try clear hfz27_4
                 try clear hfz27_5
                 try clear hfz27_6
                 try clear hfz27_7
                 try clear hfz27_8
                 try clear hfz29_0
                 try clear hfz29_1
                 try clear hfz29_2
                 try clear hfz29_3
                 try clear hfz29_4
                 try clear hfz29_5
                 try clear hfz29_6
                 try clear hfz29_7
                 try clear hfz29_8
                 try clear hfz30_0
                 try clear hfz30_1
                 try clear hfz30_2
                 try clear hfz30_3
                 try clear hfz30_4
                 try clear hfz30_5
                 try clear hfz30_6
                 try clear hfz30_7
                 try clear hfz30_8
                 try clear hfz31_0
                 try clear hfz31_1
                 try clear hfz31_2
                 try clear hfz31_3
                 try clear hfz31_4
                 try clear hfz31_5
                 try clear hfz31_6
                 try clear hfz31_7
                 try clear hfz31_8
                 try clear hfz32_0
                 try clear hfz32_1
                 try clear hfz32_2
                 try clear hfz32_3
                 try clear hfz32_4
                 try clear hfz32_5
                 try clear hfz32_6
                 try clear hfz32_7
                 try clear hfz32_8
                 try clear hfz33_0
                 try clear hfz33_1
                 try clear hfz33_2
                 try clear hfz33_3
                 try clear hfz33_4
                 try clear hfz33_5
                 try clear hfz33_6
                 try clear hfz33_7
                 try clear hfz33_8
                 try clear hfz38_0
                 try clear hfz38_1
                 try clear hfz38_2
                 try clear hfz38_3
                 try clear hfz38_4
                 try clear hfz38_5
                 try clear hfz38_6
                 try clear hfz38_7
                 try clear hfz38_8
                 try clear hfz40_0
                 try clear hfz40_1
                 try clear hfz40_2
                 try clear hfz40_3
                 try clear hfz40_4
                 try clear hfz40_5
                 try clear hfz40_6
                 try clear hfz40_7
                 try clear hfz40_8
                 try clear hfz42_0
                 try clear hfz42_1
                 try clear hfz42_2
                 try clear hfz42_3
                 try clear hfz42_4
                 try clear hfz42_5
                 try clear hfz42_6
                 try clear hfz42_7
                 try clear hfz42_8
                 try clear hfz43_0
                 try clear hfz43_1
                 try clear hfz43_2
                 try clear hfz43_3
                 try clear hfz43_4
                 try clear hfz43_5
                 try clear hfz43_6
                 try clear hfz43_7
                 try clear hfz43_8
                 try clear hfz49_0
                 try clear hfz49_1
                 try clear hfz49_2
                 try clear hfz49_3
                 try clear hfz49_4
                 try clear hfz49_5
                 try clear hfz49_6
                 try clear hfz49_7
                 try clear hfz49_8
                 try clear hfz51_0
                 try clear hfz51_1
                 try clear hfz51_2
                 try clear hfz51_3
                 try clear hfz51_4
                 try clear hfz51_5
                 try clear hfz51_6
                 try clear hfz51_7
                 try clear hfz51_8
                 try clear hfz53_0
                 try clear hfz53_1
                 try clear hfz53_2
                 try clear hfz53_3
                 try clear hfz53_4
                 try clear hfz53_5
                 try clear hfz53_6
                 try clear hfz53_7
                 try clear hfz53_8
                 try clear hfz54_0
                 try clear hfz54_1
                 try clear hfz54_2
                 try clear hfz54_3
                 try clear hfz54_4
                 try clear hfz54_5
                 try clear hfz54_6
                 try clear hfz54_7
                 try clear hfz54_8
                 try clear hfz55_0
                 try clear hfz55_1
                 try clear hfz55_2
                 try clear hfz55_3
                 try clear hfz55_4
                 try clear hfz55_5
                 try clear hfz55_6
                 try clear hfz55_7
                 try clear hfz55_8
                 try clear hfz56_0
                 try clear hfz56_1
                 try clear hfz56_2
                 try clear hfz56_3
                 try clear hfz56_4
                 try clear hfz56_5
                 try clear hfz56_6
                 try clear hfz56_7
                 try clear hfz56_8
                 try clear hfz57_0
                 try clear hfz57_1
                 try clear hfz57_2
                 try clear hfz57_3
                 try clear hfz57_4
                 try clear hfz57_5
                 try clear hfz57_6
                 try clear hfz57_7
                 try clear hfz57_8
                 try clear hfz58_0
                 try clear hfz58_1
                 try clear hfz58_2
                 try clear hfz58_3
                 try clear hfz58_4
                 try clear hfz58_5
                 try clear hfz58_6
                 try clear hfz58_7
                 try clear hfz58_8
                 try clear hfz59_0
                 try clear hfz59_1
                 try clear hfz59_2
                 try clear hfz59_3
                 try clear hfz59_4
                 try clear hfz59_5
                 try clear hfz59_6
                 try clear hfz59_7
                 try clear hfz59_8
                 try clear hfz60_0
                 try clear hfz60_1
                 try clear hfz60_2
                 try clear hfz60_3
                 try clear hfz60_4
                 try clear hfz60_5
                 try clear hfz60_6
                 try clear hfz60_7
                 try clear hfz60_8
                 try clear hfz65_0
                 try clear hfz65_1
                 try clear hfz65_2
                 try clear hfz65_3
                 try clear hfz65_4
                 try clear hfz65_5
                 try clear hfz65_6
                 try clear hfz65_7
                 try clear hfz65_8
                 try clear hfz70_0
                 try clear hfz70_1
                 try clear hfz70_2
                 try clear hfz70_3
                 try clear hfz70_4
                 try clear hfz70_5
                 try clear hfz70_6
                 try clear hfz70_7
                 try clear hfz70_8
                 try clear hfz73_0
                 try clear hfz73_1
                 try clear hfz73_2
                 try clear hfz73_3
                 try clear hfz73_4
                 try clear hfz73_5
                 try clear hfz73_6
                 try clear hfz73_7
                 try clear hfz73_8
                 try clear hfz77_0
                 try clear hfz77_1
                 try clear hfz77_2
                 try clear hfz77_3
                 try clear hfz77_4
                 try clear hfz77_5
                 try clear hfz77_6
                 try clear hfz77_7
                 try clear hfz77_8
                 try clear hfz79_0
                 try clear hfz79_1
                 try clear hfz79_2
                 try clear hfz79_3
                 try clear hfz79_4
                 try clear hfz79_5
                 try clear hfz79_6
                 try clear hfz79_7
                 try clear hfz79_8
                 try clear hfz83_0
                 try clear hfz83_1
                 try clear hfz83_2
                 try clear hfz83_3
                 try clear hfz83_4
                 try clear hfz83_5
                 try clear hfz83_6
                 try clear hfz83_7
                 try clear hfz83_8
                 try clear hfz85_0
                 try clear hfz85_1
                 try clear hfz85_2
                 try clear hfz85_3
                 try clear hfz85_4
                 try clear hfz85_5
                 try clear hfz85_6
                 try clear hfz85_7
                 try clear hfz85_8
                 try clear hfz90_0
                 try clear hfz90_1
                 try clear hfz90_2
                 try clear hfz90_3
                 try clear hfz90_4
                 try clear hfz90_5
                 try clear hfz90_6
                 try clear hfz90_7
                 try clear hfz90_8
                 try clear hfz91_0
                 try clear hfz91_1
                 try clear hfz91_2
                 try clear hfz91_3
                 try clear hfz91_4
                 try clear hfz91_5
                 try clear hfz91_6
                 try clear hfz91_7
                 try clear hfz91_8
                 try clear p2
                 obtain ⟨kq, x6_91, rfl, HA, HJ91, BK275, HB⟩ := hcut
                 cases kq with
                 | zero => exact absurd HA.out (by simp [spec_CookieText.j6])
                 | succ kj91 =>
                  have H := HA.out
                  clear HA
                  simp only [spec_CookieText.j6] at H
                  by_cases c95 : a0_5 = 1
                  ·
                   rw [if_pos c95] at H
                   have c95b0 : (a0_5 == 1) = true := beq_iff_eq.mpr c95
                   have c95b1 : (a0_5 != 1) = false := bne_eq_false_iff_eq.mpr c95
                   clear c95
                   by_cases c96 : x6_91.size + 10 ≤ 9223372036854775807
                   ·
                    rw [if_pos c96] at H
                    have c96b0 := eq_true c96
                    have c96b1 : decide (x6_91.size + 10 ≤ 9223372036854775807) = true := decide_eq_true c96
                    try have c96b2 : (9223372036854775807 < x6_91.size + 10) = False := eq_false (Nat.not_lt.2 c96)
                    simp only [Option.some.injEq, Prod.mk.injEq] at H
                    obtain ⟨rfl, rfl⟩ := H
                    have hcz97_0 : wc.cell? ⟨gb275, 0, none⟩ = some (.string a0_0) := (blk_cell BK275.out 0).trans rfl
                    have hcz97_1 : wc.cell? ⟨gb275, 1, none⟩ = some (.string a0_1) := (blk_cell BK275.out 1).trans rfl
                    have hcz97_2 : wc.cell? ⟨gb275, 2, none⟩ = some (.string a0_2) := (blk_cell BK275.out 2).trans rfl
                    have hcz97_3 : wc.cell? ⟨gb275, 3, none⟩ = some (.string a0_3) := (blk_cell BK275.out 3).trans rfl
                    have hcz97_4 : wc.cell? ⟨gb275, 4, none⟩ = some (.int .i64 a0_4) := (blk_cell BK275.out 4).trans rfl
                    have hcz97_5 : wc.cell? ⟨gb275, 5, none⟩ = some (.int .i64 a0_5) := (blk_cell BK275.out 5).trans rfl
                    have hcz97_6 : wc.cell? ⟨gb275, 6, none⟩ = some (.bool a0_6) := (blk_cell BK275.out 6).trans rfl
                    have hcz97_7 : wc.cell? ⟨gb275, 7, none⟩ = some (.bool a0_7) := (blk_cell BK275.out 7).trans rfl
                    have hcz97_8 : wc.cell? ⟨gb275, 8, none⟩ = some (.bool a0_8) := (blk_cell BK275.out 8).trans rfl
                    have hfz97_0 := blk_frozen BK275.out 0
                    have hfz97_1 := blk_frozen BK275.out 1
                    have hfz97_2 := blk_frozen BK275.out 2
                    have hfz97_3 := blk_frozen BK275.out 3
                    have hfz97_4 := blk_frozen BK275.out 4
                    have hfz97_5 := blk_frozen BK275.out 5
                    have hfz97_6 := blk_frozen BK275.out 6
                    have hfz97_7 := blk_frozen BK275.out 7
                    have hfz97_8 := blk_frozen BK275.out 8
                    go_wp2
                    any_goals (try (exfalso; have zc62b1 := of_decide_eq_true c62b1; have zc63b1 := of_decide_eq_true c63b1; have zc96b1 := of_decide_eq_true c96b1; omega))
                    go_ret2
                    exact ⟨by first | rfl | (simp [errW_none, errW_some] <;> rfl) | (simp [*, errW_none, errW_some] <;> rfl), by repeat (first | (with_reducible first | exact HB.out | apply below_alloc | apply pw_below_drewN | apply below_drew1 | refine below_set ?_ GE275.out) | exact HB.out)⟩
                   ·
                    rw [if_neg c96] at H
                    exact absurd H (by simp)
                  ·
                   rw [if_neg c95] at H
                   have c95b0 : (a0_5 == 1) = false := beq_eq_false_iff_ne.mpr c95
                   have c95b1 : (a0_5 != 1) = true := bne_iff_ne.mpr c95
                   by_cases c98 : a0_5 = 2
                   ·
                    rw [if_pos c98] at H
                    have c98b0 : (a0_5 == 2) = true := beq_iff_eq.mpr c98
                    have c98b1 : (a0_5 != 2) = false := bne_eq_false_iff_eq.mpr c98
                    clear c98
                    by_cases c99 : x6_91.size + 14 ≤ 9223372036854775807
                    ·
                     rw [if_pos c99] at H
                     have c99b0 := eq_true c99
                     have c99b1 : decide (x6_91.size + 14 ≤ 9223372036854775807) = true := decide_eq_true c99
                     try have c99b2 : (9223372036854775807 < x6_91.size + 14) = False := eq_false (Nat.not_lt.2 c99)
                     simp only [Option.some.injEq, Prod.mk.injEq] at H
                     obtain ⟨rfl, rfl⟩ := H
                     have hcz100_0 : wc.cell? ⟨gb275, 0, none⟩ = some (.string a0_0) := (blk_cell BK275.out 0).trans rfl
                     have hcz100_1 : wc.cell? ⟨gb275, 1, none⟩ = some (.string a0_1) := (blk_cell BK275.out 1).trans rfl
                     have hcz100_2 : wc.cell? ⟨gb275, 2, none⟩ = some (.string a0_2) := (blk_cell BK275.out 2).trans rfl
                     have hcz100_3 : wc.cell? ⟨gb275, 3, none⟩ = some (.string a0_3) := (blk_cell BK275.out 3).trans rfl
                     have hcz100_4 : wc.cell? ⟨gb275, 4, none⟩ = some (.int .i64 a0_4) := (blk_cell BK275.out 4).trans rfl
                     have hcz100_5 : wc.cell? ⟨gb275, 5, none⟩ = some (.int .i64 a0_5) := (blk_cell BK275.out 5).trans rfl
                     have hcz100_6 : wc.cell? ⟨gb275, 6, none⟩ = some (.bool a0_6) := (blk_cell BK275.out 6).trans rfl
                     have hcz100_7 : wc.cell? ⟨gb275, 7, none⟩ = some (.bool a0_7) := (blk_cell BK275.out 7).trans rfl
                     have hcz100_8 : wc.cell? ⟨gb275, 8, none⟩ = some (.bool a0_8) := (blk_cell BK275.out 8).trans rfl
                     have hfz100_0 := blk_frozen BK275.out 0
                     have hfz100_1 := blk_frozen BK275.out 1
                     have hfz100_2 := blk_frozen BK275.out 2
                     have hfz100_3 := blk_frozen BK275.out 3
                     have hfz100_4 := blk_frozen BK275.out 4
                     have hfz100_5 := blk_frozen BK275.out 5
                     have hfz100_6 := blk_frozen BK275.out 6
                     have hfz100_7 := blk_frozen BK275.out 7
                     have hfz100_8 := blk_frozen BK275.out 8
                     go_wp2
                     any_goals (try (exfalso; have zc62b1 := of_decide_eq_true c62b1; have zc63b1 := of_decide_eq_true c63b1; have zc99b1 := of_decide_eq_true c99b1; omega))
                     go_ret2
                     exact ⟨by first | rfl | (simp [errW_none, errW_some] <;> rfl) | (simp [*, errW_none, errW_some] <;> rfl), by repeat (first | (with_reducible first | exact HB.out | apply below_alloc | apply pw_below_drewN | apply below_drew1 | refine below_set ?_ GE275.out) | exact HB.out)⟩
                    ·
                     rw [if_neg c99] at H
                     exact absurd H (by simp)
                   ·
                    rw [if_neg c98] at H
                    have c98b0 : (a0_5 == 2) = false := beq_eq_false_iff_ne.mpr c98
                    have c98b1 : (a0_5 != 2) = true := bne_iff_ne.mpr c98
                    by_cases c101 : a0_5 = 3
                    ·
                     rw [if_pos c101] at H
                     have c101b0 : (a0_5 == 3) = true := beq_iff_eq.mpr c101
                     have c101b1 : (a0_5 != 3) = false := bne_eq_false_iff_eq.mpr c101
                     clear c101
                     by_cases c102 : x6_91.size + 17 ≤ 9223372036854775807
                     ·
                      rw [if_pos c102] at H
                      have c102b0 := eq_true c102
                      have c102b1 : decide (x6_91.size + 17 ≤ 9223372036854775807) = true := decide_eq_true c102
                      try have c102b2 : (9223372036854775807 < x6_91.size + 17) = False := eq_false (Nat.not_lt.2 c102)
                      simp only [Option.some.injEq, Prod.mk.injEq] at H
                      obtain ⟨rfl, rfl⟩ := H
                      have hcz103_0 : wc.cell? ⟨gb275, 0, none⟩ = some (.string a0_0) := (blk_cell BK275.out 0).trans rfl
                      have hcz103_1 : wc.cell? ⟨gb275, 1, none⟩ = some (.string a0_1) := (blk_cell BK275.out 1).trans rfl
                      have hcz103_2 : wc.cell? ⟨gb275, 2, none⟩ = some (.string a0_2) := (blk_cell BK275.out 2).trans rfl
                      have hcz103_3 : wc.cell? ⟨gb275, 3, none⟩ = some (.string a0_3) := (blk_cell BK275.out 3).trans rfl
                      have hcz103_4 : wc.cell? ⟨gb275, 4, none⟩ = some (.int .i64 a0_4) := (blk_cell BK275.out 4).trans rfl
                      have hcz103_5 : wc.cell? ⟨gb275, 5, none⟩ = some (.int .i64 a0_5) := (blk_cell BK275.out 5).trans rfl
                      have hcz103_6 : wc.cell? ⟨gb275, 6, none⟩ = some (.bool a0_6) := (blk_cell BK275.out 6).trans rfl
                      have hcz103_7 : wc.cell? ⟨gb275, 7, none⟩ = some (.bool a0_7) := (blk_cell BK275.out 7).trans rfl
                      have hcz103_8 : wc.cell? ⟨gb275, 8, none⟩ = some (.bool a0_8) := (blk_cell BK275.out 8).trans rfl
                      have hfz103_0 := blk_frozen BK275.out 0
                      have hfz103_1 := blk_frozen BK275.out 1
                      have hfz103_2 := blk_frozen BK275.out 2
                      have hfz103_3 := blk_frozen BK275.out 3
                      have hfz103_4 := blk_frozen BK275.out 4
                      have hfz103_5 := blk_frozen BK275.out 5
                      have hfz103_6 := blk_frozen BK275.out 6
                      have hfz103_7 := blk_frozen BK275.out 7
                      have hfz103_8 := blk_frozen BK275.out 8
                      go_wp2
                      any_goals (try (exfalso; have zc62b1 := of_decide_eq_true c62b1; have zc63b1 := of_decide_eq_true c63b1; have zc102b1 := of_decide_eq_true c102b1; omega))
                      go_ret2
                      exact ⟨by first | rfl | (simp [errW_none, errW_some] <;> rfl) | (simp [*, errW_none, errW_some] <;> rfl), by repeat (first | (with_reducible first | exact HB.out | apply below_alloc | apply pw_below_drewN | apply below_drew1 | refine below_set ?_ GE275.out) | exact HB.out)⟩
                     ·
                      rw [if_neg c102] at H
                      exact absurd H (by simp)
                    ·
                     rw [if_neg c101] at H
                     have c101b0 : (a0_5 == 3) = false := beq_eq_false_iff_ne.mpr c101
                     have c101b1 : (a0_5 != 3) = true := bne_iff_ne.mpr c101
                     by_cases c104 : a0_5 = 4
                     ·
                      rw [if_pos c104] at H
                      have c104b0 : (a0_5 == 4) = true := beq_iff_eq.mpr c104
                      have c104b1 : (a0_5 != 4) = false := bne_eq_false_iff_eq.mpr c104
                      clear c104
                      by_cases c105 : x6_91.size + 15 ≤ 9223372036854775807
                      ·
                       rw [if_pos c105] at H
                       have c105b0 := eq_true c105
                       have c105b1 : decide (x6_91.size + 15 ≤ 9223372036854775807) = true := decide_eq_true c105
                       try have c105b2 : (9223372036854775807 < x6_91.size + 15) = False := eq_false (Nat.not_lt.2 c105)
                       simp only [Option.some.injEq, Prod.mk.injEq] at H
                       obtain ⟨rfl, rfl⟩ := H
                       have hcz106_0 : wc.cell? ⟨gb275, 0, none⟩ = some (.string a0_0) := (blk_cell BK275.out 0).trans rfl
                       have hcz106_1 : wc.cell? ⟨gb275, 1, none⟩ = some (.string a0_1) := (blk_cell BK275.out 1).trans rfl
                       have hcz106_2 : wc.cell? ⟨gb275, 2, none⟩ = some (.string a0_2) := (blk_cell BK275.out 2).trans rfl
                       have hcz106_3 : wc.cell? ⟨gb275, 3, none⟩ = some (.string a0_3) := (blk_cell BK275.out 3).trans rfl
                       have hcz106_4 : wc.cell? ⟨gb275, 4, none⟩ = some (.int .i64 a0_4) := (blk_cell BK275.out 4).trans rfl
                       have hcz106_5 : wc.cell? ⟨gb275, 5, none⟩ = some (.int .i64 a0_5) := (blk_cell BK275.out 5).trans rfl
                       have hcz106_6 : wc.cell? ⟨gb275, 6, none⟩ = some (.bool a0_6) := (blk_cell BK275.out 6).trans rfl
                       have hcz106_7 : wc.cell? ⟨gb275, 7, none⟩ = some (.bool a0_7) := (blk_cell BK275.out 7).trans rfl
                       have hcz106_8 : wc.cell? ⟨gb275, 8, none⟩ = some (.bool a0_8) := (blk_cell BK275.out 8).trans rfl
                       have hfz106_0 := blk_frozen BK275.out 0
                       have hfz106_1 := blk_frozen BK275.out 1
                       have hfz106_2 := blk_frozen BK275.out 2
                       have hfz106_3 := blk_frozen BK275.out 3
                       have hfz106_4 := blk_frozen BK275.out 4
                       have hfz106_5 := blk_frozen BK275.out 5
                       have hfz106_6 := blk_frozen BK275.out 6
                       have hfz106_7 := blk_frozen BK275.out 7
                       have hfz106_8 := blk_frozen BK275.out 8
                       go_wp2
                       any_goals (try (exfalso; have zc62b1 := of_decide_eq_true c62b1; have zc63b1 := of_decide_eq_true c63b1; have zc105b1 := of_decide_eq_true c105b1; omega))
                       go_ret2
                       exact ⟨by first | rfl | (simp [errW_none, errW_some] <;> rfl) | (simp [*, errW_none, errW_some] <;> rfl), by repeat (first | (with_reducible first | exact HB.out | apply below_alloc | apply pw_below_drewN | apply below_drew1 | refine below_set ?_ GE275.out) | exact HB.out)⟩
                      ·
                       rw [if_neg c105] at H
                       exact absurd H (by simp)
                     ·
                      rw [if_neg c104] at H
                      have c104b0 : (a0_5 == 4) = false := beq_eq_false_iff_ne.mpr c104
                      have c104b1 : (a0_5 != 4) = true := bne_iff_ne.mpr c104
                      simp only [Option.some.injEq, Prod.mk.injEq] at H
                      obtain ⟨rfl, rfl⟩ := H
                      have hcz107_0 : wc.cell? ⟨gb275, 0, none⟩ = some (.string a0_0) := (blk_cell BK275.out 0).trans rfl
                      have hcz107_1 : wc.cell? ⟨gb275, 1, none⟩ = some (.string a0_1) := (blk_cell BK275.out 1).trans rfl
                      have hcz107_2 : wc.cell? ⟨gb275, 2, none⟩ = some (.string a0_2) := (blk_cell BK275.out 2).trans rfl
                      have hcz107_3 : wc.cell? ⟨gb275, 3, none⟩ = some (.string a0_3) := (blk_cell BK275.out 3).trans rfl
                      have hcz107_4 : wc.cell? ⟨gb275, 4, none⟩ = some (.int .i64 a0_4) := (blk_cell BK275.out 4).trans rfl
                      have hcz107_5 : wc.cell? ⟨gb275, 5, none⟩ = some (.int .i64 a0_5) := (blk_cell BK275.out 5).trans rfl
                      have hcz107_6 : wc.cell? ⟨gb275, 6, none⟩ = some (.bool a0_6) := (blk_cell BK275.out 6).trans rfl
                      have hcz107_7 : wc.cell? ⟨gb275, 7, none⟩ = some (.bool a0_7) := (blk_cell BK275.out 7).trans rfl
                      have hcz107_8 : wc.cell? ⟨gb275, 8, none⟩ = some (.bool a0_8) := (blk_cell BK275.out 8).trans rfl
                      have hfz107_0 := blk_frozen BK275.out 0
                      have hfz107_1 := blk_frozen BK275.out 1
                      have hfz107_2 := blk_frozen BK275.out 2
                      have hfz107_3 := blk_frozen BK275.out 3
                      have hfz107_4 := blk_frozen BK275.out 4
                      have hfz107_5 := blk_frozen BK275.out 5
                      have hfz107_6 := blk_frozen BK275.out 6
                      have hfz107_7 := blk_frozen BK275.out 7
                      have hfz107_8 := blk_frozen BK275.out 8
                      go_wp2
                      any_goals (try (exfalso; have zc62b1 := of_decide_eq_true c62b1; have zc63b1 := of_decide_eq_true c63b1; omega))
                      go_ret2
                      exact ⟨by first | rfl | (simp [errW_none, errW_some] <;> rfl) | (simp [*, errW_none, errW_some] <;> rfl), by repeat (first | (with_reducible first | exact HB.out | apply below_alloc | apply pw_below_drewN | apply below_drew1 | refine below_set ?_ GE275.out) | exact HB.out)⟩
     ·
      rw [if_neg c63] at H
      exact absurd H (by simp)
    ·
     rw [if_neg c62] at H
     exact absurd H (by simp)
end Go.Proofs.Ytfbllodbcmcndaa.Q
end
