/- Which function an operation's code leads to (oplut), part 5. Printed by gen_eoplut.py. -/
import Derived.Test.YtahohmdfllgedaaCa11
set_option linter.unusedVariables false
set_option linter.unusedSimpArgs false
namespace Go.Proofs.Ytahohmdfllgedaa
open Go.RowKit

set_option maxRecDepth 100000 in
set_option maxHeartbeats 4000000 in
theorem oplut_135 (w : World) : OplutP 106 135 w := by
  show Calls Try.prog 77 #[.int .u8 135] w _
  go_enter Try.func77, Try.ntmps77
  go_wp2_with fail
  go_ret2
  exact ⟨rfl, rfl⟩

set_option maxRecDepth 100000 in
set_option maxHeartbeats 4000000 in
theorem oplut_136 (w : World) : OplutP 106 136 w := by
  show Calls Try.prog 77 #[.int .u8 136] w _
  go_enter Try.func77, Try.ntmps77
  go_wp2_with fail
  go_ret2
  exact ⟨rfl, rfl⟩

set_option maxRecDepth 100000 in
set_option maxHeartbeats 4000000 in
theorem oplut_137 (w : World) : OplutP 106 137 w := by
  show Calls Try.prog 77 #[.int .u8 137] w _
  go_enter Try.func77, Try.ntmps77
  go_wp2_with fail
  go_ret2
  exact ⟨rfl, rfl⟩

set_option maxRecDepth 100000 in
set_option maxHeartbeats 4000000 in
theorem oplut_138 (w : World) : OplutP 106 138 w := by
  show Calls Try.prog 77 #[.int .u8 138] w _
  go_enter Try.func77, Try.ntmps77
  go_wp2_with fail
  go_ret2
  exact ⟨rfl, rfl⟩

set_option maxRecDepth 100000 in
set_option maxHeartbeats 4000000 in
theorem oplut_139 (w : World) : OplutP 106 139 w := by
  show Calls Try.prog 77 #[.int .u8 139] w _
  go_enter Try.func77, Try.ntmps77
  go_wp2_with fail
  go_ret2
  exact ⟨rfl, rfl⟩

set_option maxRecDepth 100000 in
set_option maxHeartbeats 4000000 in
theorem oplut_140 (w : World) : OplutP 106 140 w := by
  show Calls Try.prog 77 #[.int .u8 140] w _
  go_enter Try.func77, Try.ntmps77
  go_wp2_with fail
  go_ret2
  exact ⟨rfl, rfl⟩

set_option maxRecDepth 100000 in
set_option maxHeartbeats 4000000 in
theorem oplut_141 (w : World) : OplutP 106 141 w := by
  show Calls Try.prog 77 #[.int .u8 141] w _
  go_enter Try.func77, Try.ntmps77
  go_wp2_with fail
  go_ret2
  exact ⟨rfl, rfl⟩

set_option maxRecDepth 100000 in
set_option maxHeartbeats 4000000 in
theorem oplut_142 (w : World) : OplutP 106 142 w := by
  show Calls Try.prog 77 #[.int .u8 142] w _
  go_enter Try.func77, Try.ntmps77
  go_wp2_with fail
  go_ret2
  exact ⟨rfl, rfl⟩

set_option maxRecDepth 100000 in
set_option maxHeartbeats 4000000 in
theorem oplut_143 (w : World) : OplutP 106 143 w := by
  show Calls Try.prog 77 #[.int .u8 143] w _
  go_enter Try.func77, Try.ntmps77
  go_wp2_with fail
  go_ret2
  exact ⟨rfl, rfl⟩

set_option maxRecDepth 100000 in
set_option maxHeartbeats 4000000 in
theorem oplut_144 (w : World) : OplutP 105 144 w := by
  show Calls Try.prog 77 #[.int .u8 144] w _
  go_enter Try.func77, Try.ntmps77
  go_wp2_with fail
  go_ret2
  exact ⟨rfl, rfl⟩

set_option maxRecDepth 100000 in
set_option maxHeartbeats 4000000 in
theorem oplut_145 (w : World) : OplutP 107 145 w := by
  show Calls Try.prog 77 #[.int .u8 145] w _
  go_enter Try.func77, Try.ntmps77
  go_wp2_with fail
  go_ret2
  exact ⟨rfl, rfl⟩

set_option maxRecDepth 100000 in
set_option maxHeartbeats 4000000 in
theorem oplut_146 (w : World) : OplutP 106 146 w := by
  show Calls Try.prog 77 #[.int .u8 146] w _
  go_enter Try.func77, Try.ntmps77
  go_wp2_with fail
  go_ret2
  exact ⟨rfl, rfl⟩

set_option maxRecDepth 100000 in
set_option maxHeartbeats 4000000 in
theorem oplut_147 (w : World) : OplutP 108 147 w := by
  show Calls Try.prog 77 #[.int .u8 147] w _
  go_enter Try.func77, Try.ntmps77
  go_wp2_with fail
  go_ret2
  exact ⟨rfl, rfl⟩

set_option maxRecDepth 100000 in
set_option maxHeartbeats 4000000 in
theorem oplut_148 (w : World) : OplutP 89 148 w := by
  show Calls Try.prog 77 #[.int .u8 148] w _
  go_enter Try.func77, Try.ntmps77
  go_wp2_with fail
  go_ret2
  exact ⟨rfl, rfl⟩

set_option maxRecDepth 100000 in
set_option maxHeartbeats 4000000 in
theorem oplut_156 (w : World) : OplutP 109 156 w := by
  show Calls Try.prog 77 #[.int .u8 156] w _
  go_enter Try.func77, Try.ntmps77
  go_wp2_with fail
  go_ret2
  exact ⟨rfl, rfl⟩

set_option maxRecDepth 100000 in
set_option maxHeartbeats 4000000 in
theorem oplut_158 (w : World) : OplutP 110 158 w := by
  show Calls Try.prog 77 #[.int .u8 158] w _
  go_enter Try.func77, Try.ntmps77
  go_wp2_with fail
  go_ret2
  exact ⟨rfl, rfl⟩

set_option maxRecDepth 100000 in
set_option maxHeartbeats 4000000 in
theorem oplut_159 (w : World) : OplutP 111 159 w := by
  show Calls Try.prog 77 #[.int .u8 159] w _
  go_enter Try.func77, Try.ntmps77
  go_wp2_with fail
  go_ret2
  exact ⟨rfl, rfl⟩
end Go.Proofs.Ytahohmdfllgedaa
