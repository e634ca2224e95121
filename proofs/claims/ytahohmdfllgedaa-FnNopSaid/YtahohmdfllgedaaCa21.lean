/- Which function an operation's code leads to (oplut), part 2. Printed by gen_eoplut.py. -/
import Derived.Test.YtahohmdfllgedaaCa11
set_option linter.unusedVariables false
set_option linter.unusedSimpArgs false
namespace Go.Proofs.Ytahohmdfllgedaa
open Go.RowKit

set_option maxRecDepth 100000 in
set_option maxHeartbeats 4000000 in
theorem oplut_71 (w : World) : OplutP 104 71 w := by
  show Calls Try.prog 77 #[.int .u8 71] w _
  go_enter Try.func77, Try.ntmps77
  go_wp2_with fail
  go_ret2
  exact ⟨rfl, rfl⟩

set_option maxRecDepth 100000 in
set_option maxHeartbeats 4000000 in
theorem oplut_72 (w : World) : OplutP 104 72 w := by
  show Calls Try.prog 77 #[.int .u8 72] w _
  go_enter Try.func77, Try.ntmps77
  go_wp2_with fail
  go_ret2
  exact ⟨rfl, rfl⟩

set_option maxRecDepth 100000 in
set_option maxHeartbeats 4000000 in
theorem oplut_73 (w : World) : OplutP 104 73 w := by
  show Calls Try.prog 77 #[.int .u8 73] w _
  go_enter Try.func77, Try.ntmps77
  go_wp2_with fail
  go_ret2
  exact ⟨rfl, rfl⟩

set_option maxRecDepth 100000 in
set_option maxHeartbeats 4000000 in
theorem oplut_74 (w : World) : OplutP 104 74 w := by
  show Calls Try.prog 77 #[.int .u8 74] w _
  go_enter Try.func77, Try.ntmps77
  go_wp2_with fail
  go_ret2
  exact ⟨rfl, rfl⟩

set_option maxRecDepth 100000 in
set_option maxHeartbeats 4000000 in
theorem oplut_75 (w : World) : OplutP 104 75 w := by
  show Calls Try.prog 77 #[.int .u8 75] w _
  go_enter Try.func77, Try.ntmps77
  go_wp2_with fail
  go_ret2
  exact ⟨rfl, rfl⟩

set_option maxRecDepth 100000 in
set_option maxHeartbeats 4000000 in
theorem oplut_76 (w : World) : OplutP 104 76 w := by
  show Calls Try.prog 77 #[.int .u8 76] w _
  go_enter Try.func77, Try.ntmps77
  go_wp2_with fail
  go_ret2
  exact ⟨rfl, rfl⟩

set_option maxRecDepth 100000 in
set_option maxHeartbeats 4000000 in
theorem oplut_77 (w : World) : OplutP 104 77 w := by
  show Calls Try.prog 77 #[.int .u8 77] w _
  go_enter Try.func77, Try.ntmps77
  go_wp2_with fail
  go_ret2
  exact ⟨rfl, rfl⟩

set_option maxRecDepth 100000 in
set_option maxHeartbeats 4000000 in
theorem oplut_78 (w : World) : OplutP 104 78 w := by
  show Calls Try.prog 77 #[.int .u8 78] w _
  go_enter Try.func77, Try.ntmps77
  go_wp2_with fail
  go_ret2
  exact ⟨rfl, rfl⟩

set_option maxRecDepth 100000 in
set_option maxHeartbeats 4000000 in
theorem oplut_79 (w : World) : OplutP 104 79 w := by
  show Calls Try.prog 77 #[.int .u8 79] w _
  go_enter Try.func77, Try.ntmps77
  go_wp2_with fail
  go_ret2
  exact ⟨rfl, rfl⟩

set_option maxRecDepth 100000 in
set_option maxHeartbeats 4000000 in
theorem oplut_80 (w : World) : OplutP 105 80 w := by
  show Calls Try.prog 77 #[.int .u8 80] w _
  go_enter Try.func77, Try.ntmps77
  go_wp2_with fail
  go_ret2
  exact ⟨rfl, rfl⟩

set_option maxRecDepth 100000 in
set_option maxHeartbeats 4000000 in
theorem oplut_81 (w : World) : OplutP 105 81 w := by
  show Calls Try.prog 77 #[.int .u8 81] w _
  go_enter Try.func77, Try.ntmps77
  go_wp2_with fail
  go_ret2
  exact ⟨rfl, rfl⟩

set_option maxRecDepth 100000 in
set_option maxHeartbeats 4000000 in
theorem oplut_82 (w : World) : OplutP 105 82 w := by
  show Calls Try.prog 77 #[.int .u8 82] w _
  go_enter Try.func77, Try.ntmps77
  go_wp2_with fail
  go_ret2
  exact ⟨rfl, rfl⟩

set_option maxRecDepth 100000 in
set_option maxHeartbeats 4000000 in
theorem oplut_83 (w : World) : OplutP 105 83 w := by
  show Calls Try.prog 77 #[.int .u8 83] w _
  go_enter Try.func77, Try.ntmps77
  go_wp2_with fail
  go_ret2
  exact ⟨rfl, rfl⟩

set_option maxRecDepth 100000 in
set_option maxHeartbeats 4000000 in
theorem oplut_84 (w : World) : OplutP 105 84 w := by
  show Calls Try.prog 77 #[.int .u8 84] w _
  go_enter Try.func77, Try.ntmps77
  go_wp2_with fail
  go_ret2
  exact ⟨rfl, rfl⟩

set_option maxRecDepth 100000 in
set_option maxHeartbeats 4000000 in
theorem oplut_85 (w : World) : OplutP 105 85 w := by
  show Calls Try.prog 77 #[.int .u8 85] w _
  go_enter Try.func77, Try.ntmps77
  go_wp2_with fail
  go_ret2
  exact ⟨rfl, rfl⟩

set_option maxRecDepth 100000 in
set_option maxHeartbeats 4000000 in
theorem oplut_86 (w : World) : OplutP 105 86 w := by
  show Calls Try.prog 77 #[.int .u8 86] w _
  go_enter Try.func77, Try.ntmps77
  go_wp2_with fail
  go_ret2
  exact ⟨rfl, rfl⟩

set_option maxRecDepth 100000 in
set_option maxHeartbeats 4000000 in
theorem oplut_87 (w : World) : OplutP 105 87 w := by
  show Calls Try.prog 77 #[.int .u8 87] w _
  go_enter Try.func77, Try.ntmps77
  go_wp2_with fail
  go_ret2
  exact ⟨rfl, rfl⟩

set_option maxRecDepth 100000 in
set_option maxHeartbeats 4000000 in
theorem oplut_88 (w : World) : OplutP 105 88 w := by
  show Calls Try.prog 77 #[.int .u8 88] w _
  go_enter Try.func77, Try.ntmps77
  go_wp2_with fail
  go_ret2
  exact ⟨rfl, rfl⟩

set_option maxRecDepth 100000 in
set_option maxHeartbeats 4000000 in
theorem oplut_89 (w : World) : OplutP 105 89 w := by
  show Calls Try.prog 77 #[.int .u8 89] w _
  go_enter Try.func77, Try.ntmps77
  go_wp2_with fail
  go_ret2
  exact ⟨rfl, rfl⟩

set_option maxRecDepth 100000 in
set_option maxHeartbeats 4000000 in
theorem oplut_90 (w : World) : OplutP 105 90 w := by
  show Calls Try.prog 77 #[.int .u8 90] w _
  go_enter Try.func77, Try.ntmps77
  go_wp2_with fail
  go_ret2
  exact ⟨rfl, rfl⟩

set_option maxRecDepth 100000 in
set_option maxHeartbeats 4000000 in
theorem oplut_91 (w : World) : OplutP 105 91 w := by
  show Calls Try.prog 77 #[.int .u8 91] w _
  go_enter Try.func77, Try.ntmps77
  go_wp2_with fail
  go_ret2
  exact ⟨rfl, rfl⟩

set_option maxRecDepth 100000 in
set_option maxHeartbeats 4000000 in
theorem oplut_92 (w : World) : OplutP 105 92 w := by
  show Calls Try.prog 77 #[.int .u8 92] w _
  go_enter Try.func77, Try.ntmps77
  go_wp2_with fail
  go_ret2
  exact ⟨rfl, rfl⟩

set_option maxRecDepth 100000 in
set_option maxHeartbeats 4000000 in
theorem oplut_93 (w : World) : OplutP 105 93 w := by
  show Calls Try.prog 77 #[.int .u8 93] w _
  go_enter Try.func77, Try.ntmps77
  go_wp2_with fail
  go_ret2
  exact ⟨rfl, rfl⟩

set_option maxRecDepth 100000 in
set_option maxHeartbeats 4000000 in
theorem oplut_94 (w : World) : OplutP 105 94 w := by
  show Calls Try.prog 77 #[.int .u8 94] w _
  go_enter Try.func77, Try.ntmps77
  go_wp2_with fail
  go_ret2
  exact ⟨rfl, rfl⟩

set_option maxRecDepth 100000 in
set_option maxHeartbeats 4000000 in
theorem oplut_95 (w : World) : OplutP 105 95 w := by
  show Calls Try.prog 77 #[.int .u8 95] w _
  go_enter Try.func77, Try.ntmps77
  go_wp2_with fail
  go_ret2
  exact ⟨rfl, rfl⟩

set_option maxRecDepth 100000 in
set_option maxHeartbeats 4000000 in
theorem oplut_96 (w : World) : OplutP 105 96 w := by
  show Calls Try.prog 77 #[.int .u8 96] w _
  go_enter Try.func77, Try.ntmps77
  go_wp2_with fail
  go_ret2
  exact ⟨rfl, rfl⟩
end Go.Proofs.Ytahohmdfllgedaa
