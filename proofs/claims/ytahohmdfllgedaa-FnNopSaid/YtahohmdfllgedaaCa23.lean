/- Which function an operation's code leads to (oplut), part 4. Printed by gen_eoplut.py. -/
import Derived.Test.YtahohmdfllgedaaCa11
set_option linter.unusedVariables false
set_option linter.unusedSimpArgs false
namespace Go.Proofs.Ytahohmdfllgedaa
open Go.RowKit

set_option maxRecDepth 100000 in
set_option maxHeartbeats 4000000 in
theorem oplut_117 (w : World) : OplutP 106 117 w := by
  show Calls Try.prog 77 #[.int .u8 117] w _
  go_enter Try.func77, Try.ntmps77
  go_wp2_with fail
  go_ret2
  exact ⟨rfl, rfl⟩

set_option maxRecDepth 100000 in
set_option maxHeartbeats 4000000 in
theorem oplut_118 (w : World) : OplutP 106 118 w := by
  show Calls Try.prog 77 #[.int .u8 118] w _
  go_enter Try.func77, Try.ntmps77
  go_wp2_with fail
  go_ret2
  exact ⟨rfl, rfl⟩

set_option maxRecDepth 100000 in
set_option maxHeartbeats 4000000 in
theorem oplut_119 (w : World) : OplutP 106 119 w := by
  show Calls Try.prog 77 #[.int .u8 119] w _
  go_enter Try.func77, Try.ntmps77
  go_wp2_with fail
  go_ret2
  exact ⟨rfl, rfl⟩

set_option maxRecDepth 100000 in
set_option maxHeartbeats 4000000 in
theorem oplut_120 (w : World) : OplutP 106 120 w := by
  show Calls Try.prog 77 #[.int .u8 120] w _
  go_enter Try.func77, Try.ntmps77
  go_wp2_with fail
  go_ret2
  exact ⟨rfl, rfl⟩

set_option maxRecDepth 100000 in
set_option maxHeartbeats 4000000 in
theorem oplut_121 (w : World) : OplutP 106 121 w := by
  show Calls Try.prog 77 #[.int .u8 121] w _
  go_enter Try.func77, Try.ntmps77
  go_wp2_with fail
  go_ret2
  exact ⟨rfl, rfl⟩

set_option maxRecDepth 100000 in
set_option maxHeartbeats 4000000 in
theorem oplut_122 (w : World) : OplutP 106 122 w := by
  show Calls Try.prog 77 #[.int .u8 122] w _
  go_enter Try.func77, Try.ntmps77
  go_wp2_with fail
  go_ret2
  exact ⟨rfl, rfl⟩

set_option maxRecDepth 100000 in
set_option maxHeartbeats 4000000 in
theorem oplut_123 (w : World) : OplutP 106 123 w := by
  show Calls Try.prog 77 #[.int .u8 123] w _
  go_enter Try.func77, Try.ntmps77
  go_wp2_with fail
  go_ret2
  exact ⟨rfl, rfl⟩

set_option maxRecDepth 100000 in
set_option maxHeartbeats 4000000 in
theorem oplut_124 (w : World) : OplutP 106 124 w := by
  show Calls Try.prog 77 #[.int .u8 124] w _
  go_enter Try.func77, Try.ntmps77
  go_wp2_with fail
  go_ret2
  exact ⟨rfl, rfl⟩

set_option maxRecDepth 100000 in
set_option maxHeartbeats 4000000 in
theorem oplut_125 (w : World) : OplutP 106 125 w := by
  show Calls Try.prog 77 #[.int .u8 125] w _
  go_enter Try.func77, Try.ntmps77
  go_wp2_with fail
  go_ret2
  exact ⟨rfl, rfl⟩

set_option maxRecDepth 100000 in
set_option maxHeartbeats 4000000 in
theorem oplut_126 (w : World) : OplutP 106 126 w := by
  show Calls Try.prog 77 #[.int .u8 126] w _
  go_enter Try.func77, Try.ntmps77
  go_wp2_with fail
  go_ret2
  exact ⟨rfl, rfl⟩

set_option maxRecDepth 100000 in
set_option maxHeartbeats 4000000 in
theorem oplut_127 (w : World) : OplutP 106 127 w := by
  show Calls Try.prog 77 #[.int .u8 127] w _
  go_enter Try.func77, Try.ntmps77
  go_wp2_with fail
  go_ret2
  exact ⟨rfl, rfl⟩

set_option maxRecDepth 100000 in
set_option maxHeartbeats 4000000 in
theorem oplut_128 (w : World) : OplutP 106 128 w := by
  show Calls Try.prog 77 #[.int .u8 128] w _
  go_enter Try.func77, Try.ntmps77
  go_wp2_with fail
  go_ret2
  exact ⟨rfl, rfl⟩

set_option maxRecDepth 100000 in
set_option maxHeartbeats 4000000 in
theorem oplut_129 (w : World) : OplutP 106 129 w := by
  show Calls Try.prog 77 #[.int .u8 129] w _
  go_enter Try.func77, Try.ntmps77
  go_wp2_with fail
  go_ret2
  exact ⟨rfl, rfl⟩

set_option maxRecDepth 100000 in
set_option maxHeartbeats 4000000 in
theorem oplut_130 (w : World) : OplutP 106 130 w := by
  show Calls Try.prog 77 #[.int .u8 130] w _
  go_enter Try.func77, Try.ntmps77
  go_wp2_with fail
  go_ret2
  exact ⟨rfl, rfl⟩

set_option maxRecDepth 100000 in
set_option maxHeartbeats 4000000 in
theorem oplut_131 (w : World) : OplutP 106 131 w := by
  show Calls Try.prog 77 #[.int .u8 131] w _
  go_enter Try.func77, Try.ntmps77
  go_wp2_with fail
  go_ret2
  exact ⟨rfl, rfl⟩

set_option maxRecDepth 100000 in
set_option maxHeartbeats 4000000 in
theorem oplut_132 (w : World) : OplutP 106 132 w := by
  show Calls Try.prog 77 #[.int .u8 132] w _
  go_enter Try.func77, Try.ntmps77
  go_wp2_with fail
  go_ret2
  exact ⟨rfl, rfl⟩

set_option maxRecDepth 100000 in
set_option maxHeartbeats 4000000 in
theorem oplut_133 (w : World) : OplutP 106 133 w := by
  show Calls Try.prog 77 #[.int .u8 133] w _
  go_enter Try.func77, Try.ntmps77
  go_wp2_with fail
  go_ret2
  exact ⟨rfl, rfl⟩

set_option maxRecDepth 100000 in
set_option maxHeartbeats 4000000 in
theorem oplut_134 (w : World) : OplutP 106 134 w := by
  show Calls Try.prog 77 #[.int .u8 134] w _
  go_enter Try.func77, Try.ntmps77
  go_wp2_with fail
  go_ret2
  exact ⟨rfl, rfl⟩
end Go.Proofs.Ytahohmdfllgedaa
