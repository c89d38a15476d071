/- The constant texts of the path's cleaning, each laid as a row. Printed by wip/tools/genPwB.py. -/
import Derived.Test.YtjklempjljikpaaPwA
namespace Go.Proofs.Ytjklempjljikpaa.Q
open Go.RowKit Go.Proofs.YtjklempjljikpaaW.PrintWords Go.Proofs.YtjklempjljikpaaW.PrintLast Go.Proofs.YtjklempjljikpaaW.PrintMore
set_option maxHeartbeats 8000000 in
set_option maxRecDepth 100000 in
theorem strSS_calls (w : World) : Calls Try.prog 60 #[] w fun e w' => ∃ g c, e = .returned (.slice (some ⟨g, 0, none⟩) 2 c) ∧ 2 ≤ c ∧ BR w' g 5 [47, 47] ∧ Below w.heap.size w w' := by
  go_enter Try.func60, Try.ntmps60
  have hcv := Lib.run_convert_bytes_const (P := Try.prog) w 48 5 #[.int .u8 47, .int .u8 47] 2 2 Try.underlying48 Try.underlying5
  go_wp2
  go_ret
  exact ⟨_, _, rfl, by omega, BR.const _ [47, 47] rfl, below_alloc (Below.refl _ _) _⟩
set_option maxHeartbeats 8000000 in
set_option maxRecDepth 100000 in
theorem strSDS_calls (w : World) : Calls Try.prog 61 #[] w fun e w' => ∃ g c, e = .returned (.slice (some ⟨g, 0, none⟩) 3 c) ∧ 3 ≤ c ∧ BR w' g 5 [47, 46, 47] ∧ Below w.heap.size w w' := by
  go_enter Try.func61, Try.ntmps61
  have hcv := Lib.run_convert_bytes_const (P := Try.prog) w 48 5 #[.int .u8 47, .int .u8 46, .int .u8 47] 3 3 Try.underlying48 Try.underlying5
  go_wp2
  go_ret
  exact ⟨_, _, rfl, by omega, BR.const _ [47, 46, 47] rfl, below_alloc (Below.refl _ _) _⟩
set_option maxHeartbeats 8000000 in
set_option maxRecDepth 100000 in
theorem strSDDS_calls (w : World) : Calls Try.prog 62 #[] w fun e w' => ∃ g c, e = .returned (.slice (some ⟨g, 0, none⟩) 4 c) ∧ 4 ≤ c ∧ BR w' g 5 [47, 46, 46, 47] ∧ Below w.heap.size w w' := by
  go_enter Try.func62, Try.ntmps62
  have hcv := Lib.run_convert_bytes_const (P := Try.prog) w 48 5 #[.int .u8 47, .int .u8 46, .int .u8 46, .int .u8 47] 4 4 Try.underlying48 Try.underlying5
  go_wp2
  go_ret
  exact ⟨_, _, rfl, by omega, BR.const _ [47, 46, 46, 47] rfl, below_alloc (Below.refl _ _) _⟩
set_option maxHeartbeats 8000000 in
set_option maxRecDepth 100000 in
theorem strSDD_calls (w : World) : Calls Try.prog 65 #[] w fun e w' => ∃ g c, e = .returned (.slice (some ⟨g, 0, none⟩) 3 c) ∧ 3 ≤ c ∧ BR w' g 5 [47, 46, 46] ∧ Below w.heap.size w w' := by
  go_enter Try.func65, Try.ntmps65
  have hcv := Lib.run_convert_bytes_const (P := Try.prog) w 48 5 #[.int .u8 47, .int .u8 46, .int .u8 46] 3 3 Try.underlying48 Try.underlying5
  go_wp2
  go_ret
  exact ⟨_, _, rfl, by omega, BR.const _ [47, 46, 46] rfl, below_alloc (Below.refl _ _) _⟩
set_option maxHeartbeats 8000000 in
set_option maxRecDepth 100000 in
theorem strS_calls (w : World) : Calls Try.prog 66 #[] w fun e w' => ∃ g c, e = .returned (.slice (some ⟨g, 0, none⟩) 1 c) ∧ 1 ≤ c ∧ BR w' g 5 [47] ∧ Below w.heap.size w w' := by
  go_enter Try.func66, Try.ntmps66
  have hcv := Lib.run_convert_bytes_const (P := Try.prog) w 48 5 #[.int .u8 47] 1 1 Try.underlying48 Try.underlying5
  go_wp2
  go_ret
  exact ⟨_, _, rfl, by omega, BR.const _ [47] rfl, below_alloc (Below.refl _ _) _⟩
end Go.Proofs.Ytjklempjljikpaa.Q
