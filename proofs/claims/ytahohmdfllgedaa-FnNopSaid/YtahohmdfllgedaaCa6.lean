/- The reference's evaluation: operations of two values. Printed by gen_etwo.py.
The reference's evaluation: load. -/
import Derived.Test.YtahohmdfllgedaaCa4
import Derived.Test.YtahohmdfllgedaaCa3
set_option linter.unusedVariables false
set_option linter.unusedSimpArgs false
namespace Go.Proofs.Ytahohmdfllgedaa
open Go.RowKit

set_option maxHeartbeats 400000 in
theorem truth_any (b : Bool) (w : World) : Calls Try.prog 122 #[.bool b] w fun e w' => e = .returned (vi (truthI b)) ∧ w = w' := by
  cases b
  all_goals
    go_enter Try.func122, Try.ntmps122
    go_wp2_with fail
    go_ret
    exact ⟨rfl, rfl⟩

set_option maxRecDepth 100000 in
set_option maxHeartbeats 2000000 in
theorem two_26 (W0 : World) (x : LWorld) (rv mv : Value) (sb : Nat) (w : World) (s : LSt) (a b : Int) (h : StR W0 x rv mv sb w s) (hl : s.stack.length ≤ 1000000) :
    Calls Try.prog 87 #[.pointer (some ⟨sb, 0, none⟩), vi 26, vi a, vi b] w fun e w' => e = .returned (.tuple #[]) ∧ StP W0 x rv mv sb w (pushS (bits .and .i64 a b) s) w' := by
  have Hsr := Lib.hid h
  clear h
  go_enter Try.func87, Try.ntmps87
  go_wp2_with ((go_at_call 71; go_must (refine (push_any W0 x rv mv sb _ s _ Hsr.out hl).mono ?_); rintro e w1 ⟨rfl, hs1⟩; have Hs1 := Lib.hid hs1; clear hs1))
  go_end0
  exact ⟨rfl, Hs1.out⟩

set_option maxRecDepth 100000 in
set_option maxHeartbeats 2000000 in
theorem two_33 (W0 : World) (x : LWorld) (rv mv : Value) (sb : Nat) (w : World) (s : LSt) (a b : Int) (h : StR W0 x rv mv sb w s) (hl : s.stack.length ≤ 1000000) :
    Calls Try.prog 87 #[.pointer (some ⟨sb, 0, none⟩), vi 33, vi a, vi b] w fun e w' => e = .returned (.tuple #[]) ∧ StP W0 x rv mv sb w (pushS (bits .or .i64 a b) s) w' := by
  have Hsr := Lib.hid h
  clear h
  go_enter Try.func87, Try.ntmps87
  go_wp2_with ((go_at_call 71; go_must (refine (push_any W0 x rv mv sb _ s _ Hsr.out hl).mono ?_); rintro e w1 ⟨rfl, hs1⟩; have Hs1 := Lib.hid hs1; clear hs1))
  go_end0
  exact ⟨rfl, Hs1.out⟩

set_option maxRecDepth 100000 in
set_option maxHeartbeats 2000000 in
theorem two_39 (W0 : World) (x : LWorld) (rv mv : Value) (sb : Nat) (w : World) (s : LSt) (a b : Int) (h : StR W0 x rv mv sb w s) (hl : s.stack.length ≤ 1000000) :
    Calls Try.prog 87 #[.pointer (some ⟨sb, 0, none⟩), vi 39, vi a, vi b] w fun e w' => e = .returned (.tuple #[]) ∧ StP W0 x rv mv sb w (pushS (bits .xor .i64 a b) s) w' := by
  have Hsr := Lib.hid h
  clear h
  go_enter Try.func87, Try.ntmps87
  go_wp2_with ((go_at_call 71; go_must (refine (push_any W0 x rv mv sb _ s _ Hsr.out hl).mono ?_); rintro e w1 ⟨rfl, hs1⟩; have Hs1 := Lib.hid hs1; clear hs1))
  go_end0
  exact ⟨rfl, Hs1.out⟩

set_option maxRecDepth 100000 in
set_option maxHeartbeats 2000000 in
theorem two_34 (W0 : World) (x : LWorld) (rv mv : Value) (sb : Nat) (w : World) (s : LSt) (a b : Int) (h : StR W0 x rv mv sb w s) (hl : s.stack.length ≤ 1000000) :
    Calls Try.prog 87 #[.pointer (some ⟨sb, 0, none⟩), vi 34, vi a, vi b] w fun e w' => e = .returned (.tuple #[]) ∧ StP W0 x rv mv sb w (pushS (wrap64 (a + b)) s) w' := by
  have Hsr := Lib.hid h
  clear h
  go_enter Try.func87, Try.ntmps87
  go_wp2_with ((go_at_call 71; go_must (refine (push_any W0 x rv mv sb _ s _ Hsr.out hl).mono ?_); rintro e w1 ⟨rfl, hs1⟩; have Hs1 := Lib.hid hs1; clear hs1))
  go_end0
  exact ⟨rfl, Hs1.out⟩

set_option maxRecDepth 100000 in
set_option maxHeartbeats 2000000 in
theorem two_28 (W0 : World) (x : LWorld) (rv mv : Value) (sb : Nat) (w : World) (s : LSt) (a b : Int) (h : StR W0 x rv mv sb w s) (hl : s.stack.length ≤ 1000000) :
    Calls Try.prog 87 #[.pointer (some ⟨sb, 0, none⟩), vi 28, vi a, vi b] w fun e w' => e = .returned (.tuple #[]) ∧ StP W0 x rv mv sb w (pushS (wrap64 (a - b)) s) w' := by
  have Hsr := Lib.hid h
  clear h
  go_enter Try.func87, Try.ntmps87
  go_wp2_with ((go_at_call 71; go_must (refine (push_any W0 x rv mv sb _ s _ Hsr.out hl).mono ?_); rintro e w1 ⟨rfl, hs1⟩; have Hs1 := Lib.hid hs1; clear hs1))
  go_end0
  exact ⟨rfl, Hs1.out⟩

set_option maxRecDepth 100000 in
set_option maxHeartbeats 2000000 in
theorem two_30 (W0 : World) (x : LWorld) (rv mv : Value) (sb : Nat) (w : World) (s : LSt) (a b : Int) (h : StR W0 x rv mv sb w s) (hl : s.stack.length ≤ 1000000) :
    Calls Try.prog 87 #[.pointer (some ⟨sb, 0, none⟩), vi 30, vi a, vi b] w fun e w' => e = .returned (.tuple #[]) ∧ StP W0 x rv mv sb w (pushS (wrap64 (a * b)) s) w' := by
  have Hsr := Lib.hid h
  clear h
  go_enter Try.func87, Try.ntmps87
  go_wp2_with ((go_at_call 71; go_must (refine (push_any W0 x rv mv sb _ s _ Hsr.out hl).mono ?_); rintro e w1 ⟨rfl, hs1⟩; have Hs1 := Lib.hid hs1; clear hs1))
  go_end0
  exact ⟨rfl, Hs1.out⟩

set_option maxRecDepth 100000 in
set_option maxHeartbeats 2000000 in
theorem two_41 (W0 : World) (x : LWorld) (rv mv : Value) (sb : Nat) (w : World) (s : LSt) (a b : Int) (h : StR W0 x rv mv sb w s) (hl : s.stack.length ≤ 1000000) :
    Calls Try.prog 87 #[.pointer (some ⟨sb, 0, none⟩), vi 41, vi a, vi b] w fun e w' => e = .returned (.tuple #[]) ∧ StP W0 x rv mv sb w (pushS (truthI (decide (a = b))) s) w' := by
  have Hsr := Lib.hid h
  clear h
  go_enter Try.func87, Try.ntmps87
  go_wp2_with (first | (go_at_call 122; refine (truth_any _ _).mono ?_; rintro e w1 ⟨rfl, rfl⟩) | (go_at_call 71; go_must (refine (push_any W0 x rv mv sb _ s _ Hsr.out hl).mono ?_); rintro e w1 ⟨rfl, hs1⟩; have Hs1 := Lib.hid hs1; clear hs1))
  go_end0
  exact ⟨rfl, Hs1.out⟩

set_option maxRecDepth 100000 in
set_option maxHeartbeats 2000000 in
theorem two_46 (W0 : World) (x : LWorld) (rv mv : Value) (sb : Nat) (w : World) (s : LSt) (a b : Int) (h : StR W0 x rv mv sb w s) (hl : s.stack.length ≤ 1000000) :
    Calls Try.prog 87 #[.pointer (some ⟨sb, 0, none⟩), vi 46, vi a, vi b] w fun e w' => e = .returned (.tuple #[]) ∧ StP W0 x rv mv sb w (pushS (truthI (a != b)) s) w' := by
  have Hsr := Lib.hid h
  clear h
  go_enter Try.func87, Try.ntmps87
  go_wp2_with (first | (go_at_call 122; refine (truth_any _ _).mono ?_; rintro e w1 ⟨rfl, rfl⟩) | (go_at_call 71; go_must (refine (push_any W0 x rv mv sb _ s _ Hsr.out hl).mono ?_); rintro e w1 ⟨rfl, hs1⟩; have Hs1 := Lib.hid hs1; clear hs1))
  go_end0
  exact ⟨rfl, Hs1.out⟩

set_option maxRecDepth 100000 in
set_option maxHeartbeats 2000000 in
theorem two_42 (W0 : World) (x : LWorld) (rv mv : Value) (sb : Nat) (w : World) (s : LSt) (a b : Int) (h : StR W0 x rv mv sb w s) (hl : s.stack.length ≤ 1000000) :
    Calls Try.prog 87 #[.pointer (some ⟨sb, 0, none⟩), vi 42, vi a, vi b] w fun e w' => e = .returned (.tuple #[]) ∧ StP W0 x rv mv sb w (pushS (truthI (decide (b ≤ a))) s) w' := by
  have Hsr := Lib.hid h
  clear h
  go_enter Try.func87, Try.ntmps87
  go_wp2_with (first | (go_at_call 122; refine (truth_any _ _).mono ?_; rintro e w1 ⟨rfl, rfl⟩) | (go_at_call 71; go_must (refine (push_any W0 x rv mv sb _ s _ Hsr.out hl).mono ?_); rintro e w1 ⟨rfl, hs1⟩; have Hs1 := Lib.hid hs1; clear hs1))
  go_end0
  exact ⟨rfl, Hs1.out⟩

set_option maxRecDepth 100000 in
set_option maxHeartbeats 2000000 in
theorem two_43 (W0 : World) (x : LWorld) (rv mv : Value) (sb : Nat) (w : World) (s : LSt) (a b : Int) (h : StR W0 x rv mv sb w s) (hl : s.stack.length ≤ 1000000) :
    Calls Try.prog 87 #[.pointer (some ⟨sb, 0, none⟩), vi 43, vi a, vi b] w fun e w' => e = .returned (.tuple #[]) ∧ StP W0 x rv mv sb w (pushS (truthI (decide (b < a))) s) w' := by
  have Hsr := Lib.hid h
  clear h
  go_enter Try.func87, Try.ntmps87
  go_wp2_with (first | (go_at_call 122; refine (truth_any _ _).mono ?_; rintro e w1 ⟨rfl, rfl⟩) | (go_at_call 71; go_must (refine (push_any W0 x rv mv sb _ s _ Hsr.out hl).mono ?_); rintro e w1 ⟨rfl, hs1⟩; have Hs1 := Lib.hid hs1; clear hs1))
  go_end0
  exact ⟨rfl, Hs1.out⟩

set_option maxRecDepth 100000 in
set_option maxHeartbeats 2000000 in
theorem two_44 (W0 : World) (x : LWorld) (rv mv : Value) (sb : Nat) (w : World) (s : LSt) (a b : Int) (h : StR W0 x rv mv sb w s) (hl : s.stack.length ≤ 1000000) :
    Calls Try.prog 87 #[.pointer (some ⟨sb, 0, none⟩), vi 44, vi a, vi b] w fun e w' => e = .returned (.tuple #[]) ∧ StP W0 x rv mv sb w (pushS (truthI (decide (a ≤ b))) s) w' := by
  have Hsr := Lib.hid h
  clear h
  go_enter Try.func87, Try.ntmps87
  go_wp2_with (first | (go_at_call 122; refine (truth_any _ _).mono ?_; rintro e w1 ⟨rfl, rfl⟩) | (go_at_call 71; go_must (refine (push_any W0 x rv mv sb _ s _ Hsr.out hl).mono ?_); rintro e w1 ⟨rfl, hs1⟩; have Hs1 := Lib.hid hs1; clear hs1))
  go_end0
  exact ⟨rfl, Hs1.out⟩

set_option maxRecDepth 100000 in
set_option maxHeartbeats 2000000 in
theorem two_45 (W0 : World) (x : LWorld) (rv mv : Value) (sb : Nat) (w : World) (s : LSt) (a b : Int) (h : StR W0 x rv mv sb w s) (hl : s.stack.length ≤ 1000000) :
    Calls Try.prog 87 #[.pointer (some ⟨sb, 0, none⟩), vi 45, vi a, vi b] w fun e w' => e = .returned (.tuple #[]) ∧ StP W0 x rv mv sb w (pushS (truthI (decide (a < b))) s) w' := by
  have Hsr := Lib.hid h
  clear h
  go_enter Try.func87, Try.ntmps87
  go_wp2_with (first | (go_at_call 122; refine (truth_any _ _).mono ?_; rintro e w1 ⟨rfl, rfl⟩) | (go_at_call 71; go_must (refine (push_any W0 x rv mv sb _ s _ Hsr.out hl).mono ?_); rintro e w1 ⟨rfl, hs1⟩; have Hs1 := Lib.hid hs1; clear hs1))
  go_end0
  exact ⟨rfl, Hs1.out⟩

set_option maxRecDepth 100000 in
set_option maxHeartbeats 2000000 in
theorem two_27z (W0 : World) (x : LWorld) (rv mv : Value) (sb : Nat) (w : World) (s : LSt) (a : Int) (h : StR W0 x rv mv sb w s) (hl : s.stack.length ≤ 1000000) :
    Calls Try.prog 87 #[.pointer (some ⟨sb, 0, none⟩), vi 27, vi a, vi 0] w fun e w' => e = .returned (.tuple #[]) ∧ StP W0 x rv mv sb w (s.mkBad) w' := by
  have Hsr := Lib.hid h
  clear h
  obtain ⟨kv, pv, lv, qs, hv⟩ := Hsr.out
  have c9 : w.cell? ⟨sb, 9, none⟩ = some (.bool s.bad) := hv.cell 9
  have f9 := hv.free 9
  have Hv := Lib.hid hv
  clear hv
  go_enter Try.func87, Try.ntmps87
  go_wp2_with fail
  refine bodyPost_ret (results_none rfl _ _ _) rfl ?_
  exact ⟨rfl, Hv.out.bad⟩

set_option maxRecDepth 100000 in
set_option maxHeartbeats 2000000 in
theorem two_29z (W0 : World) (x : LWorld) (rv mv : Value) (sb : Nat) (w : World) (s : LSt) (a : Int) (h : StR W0 x rv mv sb w s) (hl : s.stack.length ≤ 1000000) :
    Calls Try.prog 87 #[.pointer (some ⟨sb, 0, none⟩), vi 29, vi a, vi 0] w fun e w' => e = .returned (.tuple #[]) ∧ StP W0 x rv mv sb w (s.mkBad) w' := by
  have Hsr := Lib.hid h
  clear h
  obtain ⟨kv, pv, lv, qs, hv⟩ := Hsr.out
  have c9 : w.cell? ⟨sb, 9, none⟩ = some (.bool s.bad) := hv.cell 9
  have f9 := hv.free 9
  have Hv := Lib.hid hv
  clear hv
  go_enter Try.func87, Try.ntmps87
  go_wp2_with fail
  refine bodyPost_ret (results_none rfl _ _ _) rfl ?_
  exact ⟨rfl, Hv.out.bad⟩

set_option maxRecDepth 100000 in
set_option maxHeartbeats 2000000 in
theorem two_27 (W0 : World) (x : LWorld) (rv mv : Value) (sb : Nat) (w : World) (s : LSt) (a b : Int) (h : StR W0 x rv mv sb w s) (hl : s.stack.length ≤ 1000000) (hb : ¬ b = 0) :
    Calls Try.prog 87 #[.pointer (some ⟨sb, 0, none⟩), vi 27, vi a, vi b] w fun e w' => e = .returned (.tuple #[]) ∧ StP W0 x rv mv sb w (pushS (wrap64 (a.tdiv b)) s) w' := by
  have Hsr := Lib.hid h
  clear h
  have q0 : (b == 0) = false := by simpa using hb
  go_enter Try.func87, Try.ntmps87
  go_wp2_with ((go_at_call 71; go_must (refine (push_any W0 x rv mv sb _ s _ Hsr.out hl).mono ?_); rintro e w1 ⟨rfl, hs1⟩; have Hs1 := Lib.hid hs1; clear hs1))
  go_end0
  exact ⟨rfl, Hs1.out⟩

set_option maxRecDepth 100000 in
set_option maxHeartbeats 2000000 in
theorem two_29a (W0 : World) (x : LWorld) (rv mv : Value) (sb : Nat) (w : World) (s : LSt) (a b : Int) (h : StR W0 x rv mv sb w s) (hl : s.stack.length ≤ 1000000) (hb : ¬ b = 0) (ha : a < 0) :
    Calls Try.prog 87 #[.pointer (some ⟨sb, 0, none⟩), vi 29, vi a, vi b] w fun e w' => e = .returned (.tuple #[]) ∧ StP W0 x rv mv sb w (s.mkLeft) w' := by
  have Hsr := Lib.hid h
  clear h
  have q0 : (b == 0) = false := by simpa using hb
  obtain ⟨kv, pv, lv, qs, hv⟩ := Hsr.out
  have c8 : w.cell? ⟨sb, 8, none⟩ = some (.bool s.left) := hv.cell 8
  have f8 := hv.free 8
  have Hv := Lib.hid hv
  clear hv
  go_enter Try.func87, Try.ntmps87
  go_wp2_with fail
  refine bodyPost_ret (results_none rfl _ _ _) rfl ?_
  exact ⟨rfl, Hv.out.left⟩

set_option maxRecDepth 100000 in
set_option maxHeartbeats 2000000 in
theorem two_29b (W0 : World) (x : LWorld) (rv mv : Value) (sb : Nat) (w : World) (s : LSt) (a b : Int) (h : StR W0 x rv mv sb w s) (hl : s.stack.length ≤ 1000000) (hb : ¬ b = 0) (ha : ¬ a < 0) (hb2 : b < 0) :
    Calls Try.prog 87 #[.pointer (some ⟨sb, 0, none⟩), vi 29, vi a, vi b] w fun e w' => e = .returned (.tuple #[]) ∧ StP W0 x rv mv sb w (s.mkLeft) w' := by
  have Hsr := Lib.hid h
  clear h
  have q0 : (b == 0) = false := by simpa using hb
  obtain ⟨kv, pv, lv, qs, hv⟩ := Hsr.out
  have c8 : w.cell? ⟨sb, 8, none⟩ = some (.bool s.left) := hv.cell 8
  have f8 := hv.free 8
  have Hv := Lib.hid hv
  clear hv
  go_enter Try.func87, Try.ntmps87
  go_wp2_with fail
  refine bodyPost_ret (results_none rfl _ _ _) rfl ?_
  exact ⟨rfl, Hv.out.left⟩

set_option maxRecDepth 100000 in
set_option maxHeartbeats 2000000 in
theorem two_29 (W0 : World) (x : LWorld) (rv mv : Value) (sb : Nat) (w : World) (s : LSt) (a b : Int) (h : StR W0 x rv mv sb w s) (hl : s.stack.length ≤ 1000000) (hb : ¬ b = 0) (ha : 0 ≤ a) (hb2 : 1 ≤ b) (hb3 : ¬ b < 0) (ha3 : ¬ a < 0) :
    Calls Try.prog 87 #[.pointer (some ⟨sb, 0, none⟩), vi 29, vi a, vi b] w fun e w' => e = .returned (.tuple #[]) ∧ StP W0 x rv mv sb w (pushS (a % b) s) w' := by
  have Hsr := Lib.hid h
  clear h
  have q0 : (b == 0) = false := by simpa using hb
  go_enter Try.func87, Try.ntmps87
  go_wp2_with ((go_at_call 71; go_must (refine (push_any W0 x rv mv sb _ s _ Hsr.out hl).mono ?_); rintro e w1 ⟨rfl, hs1⟩; have Hs1 := Lib.hid hs1; clear hs1))
  go_end0
  exact ⟨rfl, Hs1.out⟩

set_option maxRecDepth 100000 in
set_option maxHeartbeats 2000000 in
theorem two_36 (W0 : World) (x : LWorld) (rv mv : Value) (sb : Nat) (w : World) (s : LSt) (a b : Int) (h : StR W0 x rv mv sb w s) (hl : s.stack.length ≤ 1000000) :
    Calls Try.prog 87 #[.pointer (some ⟨sb, 0, none⟩), vi 36, vi a, vi b] w fun e w' => e = .returned (.tuple #[]) ∧ StP W0 x rv mv sb w (shiftS 36 a b s) w' := by
  have Hsr := Lib.hid h
  clear h
  go_enter Try.func87, Try.ntmps87
  go_wp2_with (go_at_call 123; go_must (refine (shift_any W0 x rv mv sb _ s _ a b Hsr.out hl).mono ?_); rintro e w1 ⟨rfl, hs1⟩; have Hs1 := Lib.hid hs1; clear hs1)
  go_end0
  exact ⟨rfl, Hs1.out⟩

set_option maxRecDepth 100000 in
set_option maxHeartbeats 2000000 in
theorem two_37 (W0 : World) (x : LWorld) (rv mv : Value) (sb : Nat) (w : World) (s : LSt) (a b : Int) (h : StR W0 x rv mv sb w s) (hl : s.stack.length ≤ 1000000) :
    Calls Try.prog 87 #[.pointer (some ⟨sb, 0, none⟩), vi 37, vi a, vi b] w fun e w' => e = .returned (.tuple #[]) ∧ StP W0 x rv mv sb w (shiftS 37 a b s) w' := by
  have Hsr := Lib.hid h
  clear h
  go_enter Try.func87, Try.ntmps87
  go_wp2_with (go_at_call 123; go_must (refine (shift_any W0 x rv mv sb _ s _ a b Hsr.out hl).mono ?_); rintro e w1 ⟨rfl, hs1⟩; have Hs1 := Lib.hid hs1; clear hs1)
  go_end0
  exact ⟨rfl, Hs1.out⟩

set_option maxRecDepth 100000 in
set_option maxHeartbeats 2000000 in
theorem two_38 (W0 : World) (x : LWorld) (rv mv : Value) (sb : Nat) (w : World) (s : LSt) (a b : Int) (h : StR W0 x rv mv sb w s) (hl : s.stack.length ≤ 1000000) :
    Calls Try.prog 87 #[.pointer (some ⟨sb, 0, none⟩), vi 38, vi a, vi b] w fun e w' => e = .returned (.tuple #[]) ∧ StP W0 x rv mv sb w (shiftS 38 a b s) w' := by
  have Hsr := Lib.hid h
  clear h
  go_enter Try.func87, Try.ntmps87
  go_wp2_with (go_at_call 123; go_must (refine (shift_any W0 x rv mv sb _ s _ a b Hsr.out hl).mono ?_); rintro e w1 ⟨rfl, hs1⟩; have Hs1 := Lib.hid hs1; clear hs1)
  go_end0
  exact ⟨rfl, Hs1.out⟩

set_option maxRecDepth 100000 in
set_option maxHeartbeats 2000000 in
theorem two_40 (W0 : World) (x : LWorld) (rv mv : Value) (sb : Nat) (w : World) (s : LSt) (a b : Int) (h : StR W0 x rv mv sb w s) (hl : s.stack.length ≤ 1000000) :
    Calls Try.prog 87 #[.pointer (some ⟨sb, 0, none⟩), vi 40, vi a, vi b] w fun e w' => e = .returned (.tuple #[]) ∧ StP W0 x rv mv sb w (s) w' := by
  have Hsr := Lib.hid h
  clear h
  go_enter Try.func87, Try.ntmps87
  go_wp2_with fail
  go_end0
  exact ⟨rfl, Hsr.out, FrT.refl _ _⟩

theorem two_any (W0 : World) (x : LWorld) (rv mv : Value) (sb : Nat) (w : World) (s : LSt) (op a b : Int) (h : StR W0 x rv mv sb w s) (hl : s.stack.length ≤ 1000000) (ho : op ∈ [(26 : Int), 33, 39, 34, 28, 30, 27, 29, 36, 37, 38, 41, 46, 42, 43, 44, 45, 40]) :
    Calls Try.prog 87 #[.pointer (some ⟨sb, 0, none⟩), vi op, vi a, vi b] w fun e w' => e = .returned (.tuple #[]) ∧ StP W0 x rv mv sb w (twoS op a b s) w' := by
  simp only [List.mem_cons, List.not_mem_nil, or_false] at ho
  rcases ho with rfl | rfl | rfl | rfl | rfl | rfl | rfl | rfl | rfl | rfl | rfl | rfl | rfl | rfl | rfl | rfl | rfl | rfl
  · exact two_26 W0 x rv mv sb w s a b h hl
  · exact two_33 W0 x rv mv sb w s a b h hl
  · exact two_39 W0 x rv mv sb w s a b h hl
  · exact two_34 W0 x rv mv sb w s a b h hl
  · exact two_28 W0 x rv mv sb w s a b h hl
  · exact two_30 W0 x rv mv sb w s a b h hl
  · by_cases hb : b = 0
    · subst hb
      have e : twoS 27 a 0 s = s.mkBad := by simp [twoS]
      rw [e]; exact two_27z W0 x rv mv sb w s a h hl
    · have e : twoS 27 a b s = pushS (wrap64 (a.tdiv b)) s := by simp [twoS, hb]
      rw [e]; exact two_27 W0 x rv mv sb w s a b h hl hb
  · by_cases hb : b = 0
    · subst hb
      have e : twoS 29 a 0 s = s.mkBad := by simp [twoS]
      rw [e]; exact two_29z W0 x rv mv sb w s a h hl
    · by_cases h1 : a < 0
      · have e : twoS 29 a b s = s.mkLeft := by simp [twoS, hb, h1]
        rw [e]; exact two_29a W0 x rv mv sb w s a b h hl hb h1
      · by_cases h2 : b < 0
        · have e : twoS 29 a b s = s.mkLeft := by simp [twoS, hb, h2]
          rw [e]; exact two_29b W0 x rv mv sb w s a b h hl hb h1 h2
        · have e : twoS 29 a b s = pushS (a % b) s := by simp [twoS, hb, h1, h2]
          rw [e]; exact two_29 W0 x rv mv sb w s a b h hl hb (by omega) (by omega) h2 h1
  · exact two_36 W0 x rv mv sb w s a b h hl
  · exact two_37 W0 x rv mv sb w s a b h hl
  · exact two_38 W0 x rv mv sb w s a b h hl
  · exact two_41 W0 x rv mv sb w s a b h hl
  · exact two_46 W0 x rv mv sb w s a b h hl
  · exact two_42 W0 x rv mv sb w s a b h hl
  · exact two_43 W0 x rv mv sb w s a b h hl
  · exact two_44 W0 x rv mv sb w s a b h hl
  · exact two_45 W0 x rv mv sb w s a b h hl
  · exact two_40 W0 x rv mv sb w s a b h hl
end Go.Proofs.Ytahohmdfllgedaa

namespace Go.Proofs.Ytahohmdfllgedaa
open Go.RowKit

theorem mem_form {W0 : World} {rv mv : Value} {x : LWorld} (h : RWorld W0 rv mv x) : ∃ a c, mv = .slice a x.mem.length c ∧ x.mem.length ≤ c ∧ c ≤ maxLen ∧ (0 < x.mem.length → ∃ g o, a = some ⟨g, o, none⟩ ∧ Cells W0 g o (vbs x.mem)) := by
  obtain ⟨a, c, e, h1, h2, h3, -⟩ := h.mm.shape
  exact ⟨a, c, e, h1, h2, h3⟩

theorem leval_take_succ (l : List UInt8) (j : Nat) (hj : j < l.length) : leval (l.take (j + 1)) = leval (l.take j) + 256 ^ j * l[j].toNat := by
  rw [List.take_succ_eq_append_getElem hj, leval_app, List.length_take, Nat.min_eq_left (by omega)]
  simp [leval]
theorem pow256 (j : Nat) : 256 ^ j = 2 ^ (8 * j) := by rw [Nat.pow_mul]

theorem le_step (z j : Nat) (y : UInt8) (hj : j < 8) (hz : z < 256 ^ j) : bits .or .u64 (z : Int) (IntKind.u64.wrap (IntKind.u64.wrap ((y.toNat : Nat) : Int) * 2 ^ (8 * j))) = ((z + 256 ^ j * y.toNat : Nat) : Int) := by
  have hy := y.toNat_lt
  have e1 : IntKind.u64.wrap ((y.toNat : Nat) : Int) = ((y.toNat : Nat) : Int) := by rw [wrap_u64_nat, Nat.mod_eq_of_lt (by unfold M64; omega)]
  have e2 : ((y.toNat : Nat) : Int) * 2 ^ (8 * j) = ((y.toNat * 2 ^ (8 * j) : Nat) : Int) := by push_cast; rfl
  have hp : 2 ^ (8 * j) ≤ 2 ^ 56 := Nat.pow_le_pow_right (by decide) (by omega)
  have hb : y.toNat * 2 ^ (8 * j) < M64 := by
    have : y.toNat * 2 ^ (8 * j) ≤ 255 * 2 ^ 56 := Nat.mul_le_mul (by omega) hp
    unfold M64; omega
  have hz2 : z < 2 ^ (8 * j) := by rw [← pow256]; exact hz
  rw [e1, e2, wrap_u64_nat, Nat.mod_eq_of_lt hb, u64_or_nat _ _ (by unfold M64 at *; omega) hb]
  congr 1
  rw [pow256, Nat.or_comm, Nat.mul_comm y.toNat, ← Nat.two_pow_add_eq_or_of_lt hz2, Nat.add_comm]
set_option maxRecDepth 100000 in
set_option maxHeartbeats 4000000 in
theorem load_any (W0 : World) (x : LWorld) (rv mv : Value) (sb : Nat) (w : World) (s : LSt) (a n : Nat) (h : StR W0 x rv mv sb w s) (ha : a < 18446744073709551616) (hn : n ≤ 8) :
    Calls Try.prog 86 #[.pointer (some ⟨sb, 0, none⟩), .int .u64 (a : Int), vi n] w fun e w' => e = .returned (vi (loadS x a n s).1) ∧ StP W0 x rv mv sb w (loadS x a n s).2 w' := by
  have Hs := Lib.hid h
  obtain ⟨kv, pv, lv, qs, hv⟩ := h
  obtain ⟨ma, mc, rfl, h1, h2, h3⟩ := mem_form hv.world
  have hat := hv.world.b3
  have c3 : w.cell? ⟨sb, 3, none⟩ = some (.int .u64 (x.at_ : Int)) := hv.cell 3
  have c4 : w.cell? ⟨sb, 4, none⟩ = some (.slice ma x.mem.length mc) := hv.cell 4
  have c9 : w.cell? ⟨sb, 9, none⟩ = some (.bool s.bad) := hv.cell 9
  have f9 := hv.free 9
  have Hv := Lib.hid hv
  unfold maxLen at h2
  by_cases q1 : a < x.at_
  · have e : loadS x a n s = (0, s.mkBad) := by unfold loadS; rw [if_neg (by omega)]
    rw [e]
    clear hv e h3
    go_enter Try.func86, Try.ntmps86
    go_wp2_with fail
    go_ret
    exact ⟨rfl, Hv.out.bad⟩
  obtain ⟨f, hf⟩ : ∃ f, a = x.at_ + f := ⟨a - x.at_, by omega⟩
  subst hf
  have ef : x.at_ + f - x.at_ = f := by omega
  by_cases q2 : x.mem.length < f
  · have e : loadS x (x.at_ + f) n s = (0, s.mkBad) := by unfold loadS; rw [if_neg (by omega)]
    rw [e]
    clear hv e h3 ef
    go_enter Try.func86, Try.ntmps86
    go_wp2_with fail
    go_ret
    exact ⟨rfl, Hv.out.bad⟩
  by_cases q3 : x.mem.length - f < n
  · have e : loadS x (x.at_ + f) n s = (0, s.mkBad) := by unfold loadS; rw [if_neg (by omega)]
    rw [e]
    clear hv e h3 ef
    go_enter Try.func86, Try.ntmps86
    go_wp2_with fail
    go_ret
    exact ⟨rfl, Hv.out.bad⟩
  · have e : loadS x (x.at_ + f) n s = (wrap64 ((leval ((x.mem.drop f).take n) : Nat) : Int), s) := by unfold loadS; rw [if_pos (by omega), ef]
    rw [e]
    have HW := Lib.hid hv.fr
    have H3 := Lib.hid h3
    clear hv e h3 ef
    go_enter Try.func86, Try.ntmps86
    go_wp2_with fail
    go_loop [8, 53] (fun v i => ∃ j : Nat, j ≤ n ∧ i = .int .i64 (j : Int) ∧ v = .int .u64 ((leval ((x.mem.drop f).take j) : Nat) : Int)) (fun _ i => n - (intOf i).toNat)
    case atStart => exact ⟨0, Nat.zero_le _, rfl, rfl⟩
    case round =>
      obtain ⟨j, hj, rfl, rfl⟩ := hrel
      by_cases hlt : j < n
      · obtain ⟨g, o, rfl, hc⟩ := H3.out (by omega)
        have cx := HW.out.cell (cell_vb hc (f + j) (by omega)) (by simp)
        have hst := leval_take_succ (x.mem.drop f) j (by simp; omega)
        have hzl := leval_lt ((x.mem.drop f).take j)
        rw [List.length_take, List.length_drop, Nat.min_eq_left (by omega)] at hzl
        simp only [List.getElem_drop] at hst
        have hst2 := le_step (leval ((x.mem.drop f).take j)) j x.mem[f + j] (by omega) hzl
        rw [← hst] at hst2
        generalize x.mem[f + j] = y at *
        generalize leval ((x.mem.drop f).take j) = z at *
        generalize hz2 : leval ((x.mem.drop f).take (j + 1)) = z2 at *
        have Hst := Lib.hid hst2
        have Hz := Lib.hid hzl
        have Hz2 := Lib.hid hz2
        clear hst hst2 hzl hc hz2
        go_wp2
        exact ⟨⟨j + 1, by omega, by go_num, by rw [Hst.out, ← Hz2.out]⟩, by simp [intOf]; omega⟩
      · obtain rfl : j = n := by omega
        clear hlt
        go_wp2
        go_ret
        exact ⟨rfl, Hs.out, FrT.refl _ _⟩
end Go.Proofs.Ytahohmdfllgedaa
