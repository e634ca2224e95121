/- Which function an operation's code leads to (oplut), part 3. Printed by gen_eoplut.py. -/
import Derived.Test.YtahohmdfllgedaaCa11
set_option linter.unusedVariables false
set_option linter.unusedSimpArgs false
namespace Go.Proofs.Ytahohmdfllgedaa
open Go.RowKit

set_option maxRecDepth 100000 in
set_option maxHeartbeats 4000000 in
theorem oplut_97 (w : World) : OplutP 105 97 w := by
  show Calls Try.prog 77 #[.int .u8 97] w _
  go_enter Try.func77, Try.ntmps77
  go_wp2_with fail
  go_ret2
  exact ⟨rfl, rfl⟩

set_option maxRecDepth 100000 in
set_option maxHeartbeats 4000000 in
theorem oplut_98 (w : World) : OplutP 105 98 w := by
  show Calls Try.prog 77 #[.int .u8 98] w _
  go_enter Try.func77, Try.ntmps77
  go_wp2_with fail
  go_ret2
  exact ⟨rfl, rfl⟩

set_option maxRecDepth 100000 in
set_option maxHeartbeats 4000000 in
theorem oplut_99 (w : World) : OplutP 105 99 w := by
  show Calls Try.prog 77 #[.int .u8 99] w _
  go_enter Try.func77, Try.ntmps77
  go_wp2_with fail
  go_ret2
  exact ⟨rfl, rfl⟩

set_option maxRecDepth 100000 in
set_option maxHeartbeats 4000000 in
theorem oplut_100 (w : World) : OplutP 105 100 w := by
  show Calls Try.prog 77 #[.int .u8 100] w _
  go_enter Try.func77, Try.ntmps77
  go_wp2_with fail
  go_ret2
  exact ⟨rfl, rfl⟩

set_option maxRecDepth 100000 in
set_option maxHeartbeats 4000000 in
theorem oplut_101 (w : World) : OplutP 105 101 w := by
  show Calls Try.prog 77 #[.int .u8 101] w _
  go_enter Try.func77, Try.ntmps77
  go_wp2_with fail
  go_ret2
  exact ⟨rfl, rfl⟩

set_option maxRecDepth 100000 in
set_option maxHeartbeats 4000000 in
theorem oplut_102 (w : World) : OplutP 105 102 w := by
  show Calls Try.prog 77 #[.int .u8 102] w _
  go_enter Try.func77, Try.ntmps77
  go_wp2_with fail
  go_ret2
  exact ⟨rfl, rfl⟩

set_option maxRecDepth 100000 in
set_option maxHeartbeats 4000000 in
theorem oplut_103 (w : World) : OplutP 105 103 w := by
  show Calls Try.prog 77 #[.int .u8 103] w _
  go_enter Try.func77, Try.ntmps77
  go_wp2_with fail
  go_ret2
  exact ⟨rfl, rfl⟩

set_option maxRecDepth 100000 in
set_option maxHeartbeats 4000000 in
theorem oplut_104 (w : World) : OplutP 105 104 w := by
  show Calls Try.prog 77 #[.int .u8 104] w _
  go_enter Try.func77, Try.ntmps77
  go_wp2_with fail
  go_ret2
  exact ⟨rfl, rfl⟩

set_option maxRecDepth 100000 in
set_option maxHeartbeats 4000000 in
theorem oplut_105 (w : World) : OplutP 105 105 w := by
  show Calls Try.prog 77 #[.int .u8 105] w _
  go_enter Try.func77, Try.ntmps77
  go_wp2_with fail
  go_ret2
  exact ⟨rfl, rfl⟩

set_option maxRecDepth 100000 in
set_option maxHeartbeats 4000000 in
theorem oplut_106 (w : World) : OplutP 105 106 w := by
  show Calls Try.prog 77 #[.int .u8 106] w _
  go_enter Try.func77, Try.ntmps77
  go_wp2_with fail
  go_ret2
  exact ⟨rfl, rfl⟩

set_option maxRecDepth 100000 in
set_option maxHeartbeats 4000000 in
theorem oplut_107 (w : World) : OplutP 105 107 w := by
  show Calls Try.prog 77 #[.int .u8 107] w _
  go_enter Try.func77, Try.ntmps77
  go_wp2_with fail
  go_ret2
  exact ⟨rfl, rfl⟩

set_option maxRecDepth 100000 in
set_option maxHeartbeats 4000000 in
theorem oplut_108 (w : World) : OplutP 105 108 w := by
  show Calls Try.prog 77 #[.int .u8 108] w _
  go_enter Try.func77, Try.ntmps77
  go_wp2_with fail
  go_ret2
  exact ⟨rfl, rfl⟩

set_option maxRecDepth 100000 in
set_option maxHeartbeats 4000000 in
theorem oplut_109 (w : World) : OplutP 105 109 w := by
  show Calls Try.prog 77 #[.int .u8 109] w _
  go_enter Try.func77, Try.ntmps77
  go_wp2_with fail
  go_ret2
  exact ⟨rfl, rfl⟩

set_option maxRecDepth 100000 in
set_option maxHeartbeats 4000000 in
theorem oplut_110 (w : World) : OplutP 105 110 w := by
  show Calls Try.prog 77 #[.int .u8 110] w _
  go_enter Try.func77, Try.ntmps77
  go_wp2_with fail
  go_ret2
  exact ⟨rfl, rfl⟩

set_option maxRecDepth 100000 in
set_option maxHeartbeats 4000000 in
theorem oplut_111 (w : World) : OplutP 105 111 w := by
  show Calls Try.prog 77 #[.int .u8 111] w _
  go_enter Try.func77, Try.ntmps77
  go_wp2_with fail
  go_ret2
  exact ⟨rfl, rfl⟩

set_option maxRecDepth 100000 in
set_option maxHeartbeats 4000000 in
theorem oplut_112 (w : World) : OplutP 106 112 w := by
  show Calls Try.prog 77 #[.int .u8 112] w _
  go_enter Try.func77, Try.ntmps77
  go_wp2_with fail
  go_ret2
  exact ⟨rfl, rfl⟩

set_option maxRecDepth 100000 in
set_option maxHeartbeats 4000000 in
theorem oplut_113 (w : World) : OplutP 106 113 w := by
  show Calls Try.prog 77 #[.int .u8 113] w _
  go_enter Try.func77, Try.ntmps77
  go_wp2_with fail
  go_ret2
  exact ⟨rfl, rfl⟩

set_option maxRecDepth 100000 in
set_option maxHeartbeats 4000000 in
theorem oplut_114 (w : World) : OplutP 106 114 w := by
  show Calls Try.prog 77 #[.int .u8 114] w _
  go_enter Try.func77, Try.ntmps77
  go_wp2_with fail
  go_ret2
  exact ⟨rfl, rfl⟩

set_option maxRecDepth 100000 in
set_option maxHeartbeats 4000000 in
theorem oplut_115 (w : World) : OplutP 106 115 w := by
  show Calls Try.prog 77 #[.int .u8 115] w _
  go_enter Try.func77, Try.ntmps77
  go_wp2_with fail
  go_ret2
  exact ⟨rfl, rfl⟩

set_option maxRecDepth 100000 in
set_option maxHeartbeats 4000000 in
theorem oplut_116 (w : World) : OplutP 106 116 w := by
  show Calls Try.prog 77 #[.int .u8 116] w _
  go_enter Try.func77, Try.ntmps77
  go_wp2_with fail
  go_ret2
  exact ⟨rfl, rfl⟩
end Go.Proofs.Ytahohmdfllgedaa
