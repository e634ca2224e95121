/- Which function an operation's code leads to (oplut), part 1. Printed by gen_eoplut.py. -/
import Derived.Test.YtahohmdfllgedaaCa11
set_option linter.unusedVariables false
set_option linter.unusedSimpArgs false
namespace Go.Proofs.Ytahohmdfllgedaa
open Go.RowKit

set_option maxRecDepth 100000 in
set_option maxHeartbeats 4000000 in
theorem oplut_3 (w : World) : OplutP 88 3 w := by
  show Calls Try.prog 77 #[.int .u8 3] w _
  go_enter Try.func77, Try.ntmps77
  go_wp2_with fail
  go_ret2
  exact ⟨rfl, rfl⟩

set_option maxRecDepth 100000 in
set_option maxHeartbeats 4000000 in
theorem oplut_6 (w : World) : OplutP 89 6 w := by
  show Calls Try.prog 77 #[.int .u8 6] w _
  go_enter Try.func77, Try.ntmps77
  go_wp2_with fail
  go_ret2
  exact ⟨rfl, rfl⟩

set_option maxRecDepth 100000 in
set_option maxHeartbeats 4000000 in
theorem oplut_8 (w : World) : OplutP 90 8 w := by
  show Calls Try.prog 77 #[.int .u8 8] w _
  go_enter Try.func77, Try.ntmps77
  go_wp2_with fail
  go_ret2
  exact ⟨rfl, rfl⟩

set_option maxRecDepth 100000 in
set_option maxHeartbeats 4000000 in
theorem oplut_9 (w : World) : OplutP 91 9 w := by
  show Calls Try.prog 77 #[.int .u8 9] w _
  go_enter Try.func77, Try.ntmps77
  go_wp2_with fail
  go_ret2
  exact ⟨rfl, rfl⟩

set_option maxRecDepth 100000 in
set_option maxHeartbeats 4000000 in
theorem oplut_10 (w : World) : OplutP 90 10 w := by
  show Calls Try.prog 77 #[.int .u8 10] w _
  go_enter Try.func77, Try.ntmps77
  go_wp2_with fail
  go_ret2
  exact ⟨rfl, rfl⟩

set_option maxRecDepth 100000 in
set_option maxHeartbeats 4000000 in
theorem oplut_11 (w : World) : OplutP 91 11 w := by
  show Calls Try.prog 77 #[.int .u8 11] w _
  go_enter Try.func77, Try.ntmps77
  go_wp2_with fail
  go_ret2
  exact ⟨rfl, rfl⟩

set_option maxRecDepth 100000 in
set_option maxHeartbeats 4000000 in
theorem oplut_12 (w : World) : OplutP 90 12 w := by
  show Calls Try.prog 77 #[.int .u8 12] w _
  go_enter Try.func77, Try.ntmps77
  go_wp2_with fail
  go_ret2
  exact ⟨rfl, rfl⟩

set_option maxRecDepth 100000 in
set_option maxHeartbeats 4000000 in
theorem oplut_13 (w : World) : OplutP 91 13 w := by
  show Calls Try.prog 77 #[.int .u8 13] w _
  go_enter Try.func77, Try.ntmps77
  go_wp2_with fail
  go_ret2
  exact ⟨rfl, rfl⟩

set_option maxRecDepth 100000 in
set_option maxHeartbeats 4000000 in
theorem oplut_14 (w : World) : OplutP 90 14 w := by
  show Calls Try.prog 77 #[.int .u8 14] w _
  go_enter Try.func77, Try.ntmps77
  go_wp2_with fail
  go_ret2
  exact ⟨rfl, rfl⟩

set_option maxRecDepth 100000 in
set_option maxHeartbeats 4000000 in
theorem oplut_15 (w : World) : OplutP 91 15 w := by
  show Calls Try.prog 77 #[.int .u8 15] w _
  go_enter Try.func77, Try.ntmps77
  go_wp2_with fail
  go_ret2
  exact ⟨rfl, rfl⟩

set_option maxRecDepth 100000 in
set_option maxHeartbeats 4000000 in
theorem oplut_16 (w : World) : OplutP 92 16 w := by
  show Calls Try.prog 77 #[.int .u8 16] w _
  go_enter Try.func77, Try.ntmps77
  go_wp2_with fail
  go_ret2
  exact ⟨rfl, rfl⟩

set_option maxRecDepth 100000 in
set_option maxHeartbeats 4000000 in
theorem oplut_17 (w : World) : OplutP 93 17 w := by
  show Calls Try.prog 77 #[.int .u8 17] w _
  go_enter Try.func77, Try.ntmps77
  go_wp2_with fail
  go_ret2
  exact ⟨rfl, rfl⟩

set_option maxRecDepth 100000 in
set_option maxHeartbeats 4000000 in
theorem oplut_18 (w : World) : OplutP 94 18 w := by
  show Calls Try.prog 77 #[.int .u8 18] w _
  go_enter Try.func77, Try.ntmps77
  go_wp2_with fail
  go_ret2
  exact ⟨rfl, rfl⟩

set_option maxRecDepth 100000 in
set_option maxHeartbeats 4000000 in
theorem oplut_19 (w : World) : OplutP 95 19 w := by
  show Calls Try.prog 77 #[.int .u8 19] w _
  go_enter Try.func77, Try.ntmps77
  go_wp2_with fail
  go_ret2
  exact ⟨rfl, rfl⟩

set_option maxRecDepth 100000 in
set_option maxHeartbeats 4000000 in
theorem oplut_20 (w : World) : OplutP 96 20 w := by
  show Calls Try.prog 77 #[.int .u8 20] w _
  go_enter Try.func77, Try.ntmps77
  go_wp2_with fail
  go_ret2
  exact ⟨rfl, rfl⟩

set_option maxRecDepth 100000 in
set_option maxHeartbeats 4000000 in
theorem oplut_21 (w : World) : OplutP 96 21 w := by
  show Calls Try.prog 77 #[.int .u8 21] w _
  go_enter Try.func77, Try.ntmps77
  go_wp2_with fail
  go_ret2
  exact ⟨rfl, rfl⟩

set_option maxRecDepth 100000 in
set_option maxHeartbeats 4000000 in
theorem oplut_22 (w : World) : OplutP 97 22 w := by
  show Calls Try.prog 77 #[.int .u8 22] w _
  go_enter Try.func77, Try.ntmps77
  go_wp2_with fail
  go_ret2
  exact ⟨rfl, rfl⟩

set_option maxRecDepth 100000 in
set_option maxHeartbeats 4000000 in
theorem oplut_23 (w : World) : OplutP 98 23 w := by
  show Calls Try.prog 77 #[.int .u8 23] w _
  go_enter Try.func77, Try.ntmps77
  go_wp2_with fail
  go_ret2
  exact ⟨rfl, rfl⟩

set_option maxRecDepth 100000 in
set_option maxHeartbeats 4000000 in
theorem oplut_25 (w : World) : OplutP 99 25 w := by
  show Calls Try.prog 77 #[.int .u8 25] w _
  go_enter Try.func77, Try.ntmps77
  go_wp2_with fail
  go_ret2
  exact ⟨rfl, rfl⟩

set_option maxRecDepth 100000 in
set_option maxHeartbeats 4000000 in
theorem oplut_26 (w : World) : OplutP 100 26 w := by
  show Calls Try.prog 77 #[.int .u8 26] w _
  go_enter Try.func77, Try.ntmps77
  go_wp2_with fail
  go_ret2
  exact ⟨rfl, rfl⟩

set_option maxRecDepth 100000 in
set_option maxHeartbeats 4000000 in
theorem oplut_27 (w : World) : OplutP 100 27 w := by
  show Calls Try.prog 77 #[.int .u8 27] w _
  go_enter Try.func77, Try.ntmps77
  go_wp2_with fail
  go_ret2
  exact ⟨rfl, rfl⟩

set_option maxRecDepth 100000 in
set_option maxHeartbeats 4000000 in
theorem oplut_28 (w : World) : OplutP 100 28 w := by
  show Calls Try.prog 77 #[.int .u8 28] w _
  go_enter Try.func77, Try.ntmps77
  go_wp2_with fail
  go_ret2
  exact ⟨rfl, rfl⟩

set_option maxRecDepth 100000 in
set_option maxHeartbeats 4000000 in
theorem oplut_29 (w : World) : OplutP 100 29 w := by
  show Calls Try.prog 77 #[.int .u8 29] w _
  go_enter Try.func77, Try.ntmps77
  go_wp2_with fail
  go_ret2
  exact ⟨rfl, rfl⟩

set_option maxRecDepth 100000 in
set_option maxHeartbeats 4000000 in
theorem oplut_30 (w : World) : OplutP 100 30 w := by
  show Calls Try.prog 77 #[.int .u8 30] w _
  go_enter Try.func77, Try.ntmps77
  go_wp2_with fail
  go_ret2
  exact ⟨rfl, rfl⟩

set_option maxRecDepth 100000 in
set_option maxHeartbeats 4000000 in
theorem oplut_31 (w : World) : OplutP 99 31 w := by
  show Calls Try.prog 77 #[.int .u8 31] w _
  go_enter Try.func77, Try.ntmps77
  go_wp2_with fail
  go_ret2
  exact ⟨rfl, rfl⟩

set_option maxRecDepth 100000 in
set_option maxHeartbeats 4000000 in
theorem oplut_32 (w : World) : OplutP 99 32 w := by
  show Calls Try.prog 77 #[.int .u8 32] w _
  go_enter Try.func77, Try.ntmps77
  go_wp2_with fail
  go_ret2
  exact ⟨rfl, rfl⟩

set_option maxRecDepth 100000 in
set_option maxHeartbeats 4000000 in
theorem oplut_33 (w : World) : OplutP 100 33 w := by
  show Calls Try.prog 77 #[.int .u8 33] w _
  go_enter Try.func77, Try.ntmps77
  go_wp2_with fail
  go_ret2
  exact ⟨rfl, rfl⟩

set_option maxRecDepth 100000 in
set_option maxHeartbeats 4000000 in
theorem oplut_34 (w : World) : OplutP 100 34 w := by
  show Calls Try.prog 77 #[.int .u8 34] w _
  go_enter Try.func77, Try.ntmps77
  go_wp2_with fail
  go_ret2
  exact ⟨rfl, rfl⟩

set_option maxRecDepth 100000 in
set_option maxHeartbeats 4000000 in
theorem oplut_35 (w : World) : OplutP 101 35 w := by
  show Calls Try.prog 77 #[.int .u8 35] w _
  go_enter Try.func77, Try.ntmps77
  go_wp2_with fail
  go_ret2
  exact ⟨rfl, rfl⟩

set_option maxRecDepth 100000 in
set_option maxHeartbeats 4000000 in
theorem oplut_36 (w : World) : OplutP 100 36 w := by
  show Calls Try.prog 77 #[.int .u8 36] w _
  go_enter Try.func77, Try.ntmps77
  go_wp2_with fail
  go_ret2
  exact ⟨rfl, rfl⟩

set_option maxRecDepth 100000 in
set_option maxHeartbeats 4000000 in
theorem oplut_37 (w : World) : OplutP 100 37 w := by
  show Calls Try.prog 77 #[.int .u8 37] w _
  go_enter Try.func77, Try.ntmps77
  go_wp2_with fail
  go_ret2
  exact ⟨rfl, rfl⟩

set_option maxRecDepth 100000 in
set_option maxHeartbeats 4000000 in
theorem oplut_38 (w : World) : OplutP 100 38 w := by
  show Calls Try.prog 77 #[.int .u8 38] w _
  go_enter Try.func77, Try.ntmps77
  go_wp2_with fail
  go_ret2
  exact ⟨rfl, rfl⟩

set_option maxRecDepth 100000 in
set_option maxHeartbeats 4000000 in
theorem oplut_39 (w : World) : OplutP 100 39 w := by
  show Calls Try.prog 77 #[.int .u8 39] w _
  go_enter Try.func77, Try.ntmps77
  go_wp2_with fail
  go_ret2
  exact ⟨rfl, rfl⟩

set_option maxRecDepth 100000 in
set_option maxHeartbeats 4000000 in
theorem oplut_40 (w : World) : OplutP 102 40 w := by
  show Calls Try.prog 77 #[.int .u8 40] w _
  go_enter Try.func77, Try.ntmps77
  go_wp2_with fail
  go_ret2
  exact ⟨rfl, rfl⟩

set_option maxRecDepth 100000 in
set_option maxHeartbeats 4000000 in
theorem oplut_41 (w : World) : OplutP 100 41 w := by
  show Calls Try.prog 77 #[.int .u8 41] w _
  go_enter Try.func77, Try.ntmps77
  go_wp2_with fail
  go_ret2
  exact ⟨rfl, rfl⟩

set_option maxRecDepth 100000 in
set_option maxHeartbeats 4000000 in
theorem oplut_42 (w : World) : OplutP 100 42 w := by
  show Calls Try.prog 77 #[.int .u8 42] w _
  go_enter Try.func77, Try.ntmps77
  go_wp2_with fail
  go_ret2
  exact ⟨rfl, rfl⟩

set_option maxRecDepth 100000 in
set_option maxHeartbeats 4000000 in
theorem oplut_43 (w : World) : OplutP 100 43 w := by
  show Calls Try.prog 77 #[.int .u8 43] w _
  go_enter Try.func77, Try.ntmps77
  go_wp2_with fail
  go_ret2
  exact ⟨rfl, rfl⟩

set_option maxRecDepth 100000 in
set_option maxHeartbeats 4000000 in
theorem oplut_44 (w : World) : OplutP 100 44 w := by
  show Calls Try.prog 77 #[.int .u8 44] w _
  go_enter Try.func77, Try.ntmps77
  go_wp2_with fail
  go_ret2
  exact ⟨rfl, rfl⟩

set_option maxRecDepth 100000 in
set_option maxHeartbeats 4000000 in
theorem oplut_45 (w : World) : OplutP 100 45 w := by
  show Calls Try.prog 77 #[.int .u8 45] w _
  go_enter Try.func77, Try.ntmps77
  go_wp2_with fail
  go_ret2
  exact ⟨rfl, rfl⟩

set_option maxRecDepth 100000 in
set_option maxHeartbeats 4000000 in
theorem oplut_46 (w : World) : OplutP 100 46 w := by
  show Calls Try.prog 77 #[.int .u8 46] w _
  go_enter Try.func77, Try.ntmps77
  go_wp2_with fail
  go_ret2
  exact ⟨rfl, rfl⟩

set_option maxRecDepth 100000 in
set_option maxHeartbeats 4000000 in
theorem oplut_47 (w : World) : OplutP 103 47 w := by
  show Calls Try.prog 77 #[.int .u8 47] w _
  go_enter Try.func77, Try.ntmps77
  go_wp2_with fail
  go_ret2
  exact ⟨rfl, rfl⟩

set_option maxRecDepth 100000 in
set_option maxHeartbeats 4000000 in
theorem oplut_48 (w : World) : OplutP 104 48 w := by
  show Calls Try.prog 77 #[.int .u8 48] w _
  go_enter Try.func77, Try.ntmps77
  go_wp2_with fail
  go_ret2
  exact ⟨rfl, rfl⟩

set_option maxRecDepth 100000 in
set_option maxHeartbeats 4000000 in
theorem oplut_49 (w : World) : OplutP 104 49 w := by
  show Calls Try.prog 77 #[.int .u8 49] w _
  go_enter Try.func77, Try.ntmps77
  go_wp2_with fail
  go_ret2
  exact ⟨rfl, rfl⟩

set_option maxRecDepth 100000 in
set_option maxHeartbeats 4000000 in
theorem oplut_50 (w : World) : OplutP 104 50 w := by
  show Calls Try.prog 77 #[.int .u8 50] w _
  go_enter Try.func77, Try.ntmps77
  go_wp2_with fail
  go_ret2
  exact ⟨rfl, rfl⟩

set_option maxRecDepth 100000 in
set_option maxHeartbeats 4000000 in
theorem oplut_51 (w : World) : OplutP 104 51 w := by
  show Calls Try.prog 77 #[.int .u8 51] w _
  go_enter Try.func77, Try.ntmps77
  go_wp2_with fail
  go_ret2
  exact ⟨rfl, rfl⟩

set_option maxRecDepth 100000 in
set_option maxHeartbeats 4000000 in
theorem oplut_52 (w : World) : OplutP 104 52 w := by
  show Calls Try.prog 77 #[.int .u8 52] w _
  go_enter Try.func77, Try.ntmps77
  go_wp2_with fail
  go_ret2
  exact ⟨rfl, rfl⟩

set_option maxRecDepth 100000 in
set_option maxHeartbeats 4000000 in
theorem oplut_53 (w : World) : OplutP 104 53 w := by
  show Calls Try.prog 77 #[.int .u8 53] w _
  go_enter Try.func77, Try.ntmps77
  go_wp2_with fail
  go_ret2
  exact ⟨rfl, rfl⟩

set_option maxRecDepth 100000 in
set_option maxHeartbeats 4000000 in
theorem oplut_54 (w : World) : OplutP 104 54 w := by
  show Calls Try.prog 77 #[.int .u8 54] w _
  go_enter Try.func77, Try.ntmps77
  go_wp2_with fail
  go_ret2
  exact ⟨rfl, rfl⟩

set_option maxRecDepth 100000 in
set_option maxHeartbeats 4000000 in
theorem oplut_55 (w : World) : OplutP 104 55 w := by
  show Calls Try.prog 77 #[.int .u8 55] w _
  go_enter Try.func77, Try.ntmps77
  go_wp2_with fail
  go_ret2
  exact ⟨rfl, rfl⟩

set_option maxRecDepth 100000 in
set_option maxHeartbeats 4000000 in
theorem oplut_56 (w : World) : OplutP 104 56 w := by
  show Calls Try.prog 77 #[.int .u8 56] w _
  go_enter Try.func77, Try.ntmps77
  go_wp2_with fail
  go_ret2
  exact ⟨rfl, rfl⟩

set_option maxRecDepth 100000 in
set_option maxHeartbeats 4000000 in
theorem oplut_57 (w : World) : OplutP 104 57 w := by
  show Calls Try.prog 77 #[.int .u8 57] w _
  go_enter Try.func77, Try.ntmps77
  go_wp2_with fail
  go_ret2
  exact ⟨rfl, rfl⟩

set_option maxRecDepth 100000 in
set_option maxHeartbeats 4000000 in
theorem oplut_58 (w : World) : OplutP 104 58 w := by
  show Calls Try.prog 77 #[.int .u8 58] w _
  go_enter Try.func77, Try.ntmps77
  go_wp2_with fail
  go_ret2
  exact ⟨rfl, rfl⟩

set_option maxRecDepth 100000 in
set_option maxHeartbeats 4000000 in
theorem oplut_59 (w : World) : OplutP 104 59 w := by
  show Calls Try.prog 77 #[.int .u8 59] w _
  go_enter Try.func77, Try.ntmps77
  go_wp2_with fail
  go_ret2
  exact ⟨rfl, rfl⟩

set_option maxRecDepth 100000 in
set_option maxHeartbeats 4000000 in
theorem oplut_60 (w : World) : OplutP 104 60 w := by
  show Calls Try.prog 77 #[.int .u8 60] w _
  go_enter Try.func77, Try.ntmps77
  go_wp2_with fail
  go_ret2
  exact ⟨rfl, rfl⟩

set_option maxRecDepth 100000 in
set_option maxHeartbeats 4000000 in
theorem oplut_61 (w : World) : OplutP 104 61 w := by
  show Calls Try.prog 77 #[.int .u8 61] w _
  go_enter Try.func77, Try.ntmps77
  go_wp2_with fail
  go_ret2
  exact ⟨rfl, rfl⟩

set_option maxRecDepth 100000 in
set_option maxHeartbeats 4000000 in
theorem oplut_62 (w : World) : OplutP 104 62 w := by
  show Calls Try.prog 77 #[.int .u8 62] w _
  go_enter Try.func77, Try.ntmps77
  go_wp2_with fail
  go_ret2
  exact ⟨rfl, rfl⟩

set_option maxRecDepth 100000 in
set_option maxHeartbeats 4000000 in
theorem oplut_63 (w : World) : OplutP 104 63 w := by
  show Calls Try.prog 77 #[.int .u8 63] w _
  go_enter Try.func77, Try.ntmps77
  go_wp2_with fail
  go_ret2
  exact ⟨rfl, rfl⟩

set_option maxRecDepth 100000 in
set_option maxHeartbeats 4000000 in
theorem oplut_64 (w : World) : OplutP 104 64 w := by
  show Calls Try.prog 77 #[.int .u8 64] w _
  go_enter Try.func77, Try.ntmps77
  go_wp2_with fail
  go_ret2
  exact ⟨rfl, rfl⟩

set_option maxRecDepth 100000 in
set_option maxHeartbeats 4000000 in
theorem oplut_65 (w : World) : OplutP 104 65 w := by
  show Calls Try.prog 77 #[.int .u8 65] w _
  go_enter Try.func77, Try.ntmps77
  go_wp2_with fail
  go_ret2
  exact ⟨rfl, rfl⟩

set_option maxRecDepth 100000 in
set_option maxHeartbeats 4000000 in
theorem oplut_66 (w : World) : OplutP 104 66 w := by
  show Calls Try.prog 77 #[.int .u8 66] w _
  go_enter Try.func77, Try.ntmps77
  go_wp2_with fail
  go_ret2
  exact ⟨rfl, rfl⟩

set_option maxRecDepth 100000 in
set_option maxHeartbeats 4000000 in
theorem oplut_67 (w : World) : OplutP 104 67 w := by
  show Calls Try.prog 77 #[.int .u8 67] w _
  go_enter Try.func77, Try.ntmps77
  go_wp2_with fail
  go_ret2
  exact ⟨rfl, rfl⟩

set_option maxRecDepth 100000 in
set_option maxHeartbeats 4000000 in
theorem oplut_68 (w : World) : OplutP 104 68 w := by
  show Calls Try.prog 77 #[.int .u8 68] w _
  go_enter Try.func77, Try.ntmps77
  go_wp2_with fail
  go_ret2
  exact ⟨rfl, rfl⟩

set_option maxRecDepth 100000 in
set_option maxHeartbeats 4000000 in
theorem oplut_69 (w : World) : OplutP 104 69 w := by
  show Calls Try.prog 77 #[.int .u8 69] w _
  go_enter Try.func77, Try.ntmps77
  go_wp2_with fail
  go_ret2
  exact ⟨rfl, rfl⟩

set_option maxRecDepth 100000 in
set_option maxHeartbeats 4000000 in
theorem oplut_70 (w : World) : OplutP 104 70 w := by
  show Calls Try.prog 77 #[.int .u8 70] w _
  go_enter Try.func77, Try.ntmps77
  go_wp2_with fail
  go_ret2
  exact ⟨rfl, rfl⟩
end Go.Proofs.Ytahohmdfllgedaa
