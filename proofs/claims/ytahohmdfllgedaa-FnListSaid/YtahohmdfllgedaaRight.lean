/- The reference's tests on call frame information: callShape, callRight, moves, Right, apart. -/
import Derived.Test.YtahohmdfllgedaaFits
namespace Go.Proofs.Ytahohmdfllgedaa
open Go.RowKit

def shape (op : Int) : List UInt8 × Bool :=
  if op = 64 ∨ op = 192 then ([], true)
  else if op = 128 then ([117], true)
  else if op = 0 ∨ op = 10 ∨ op = 11 then ([], true)
  else if op = 1 then ([97], true)
  else if op = 2 then ([49], true)
  else if op = 3 then ([50], true)
  else if op = 4 then ([52], true)
  else if op = 5 ∨ op = 9 ∨ op = 12 ∨ op = 20 then ([117, 117], true)
  else if op = 6 ∨ op = 7 ∨ op = 8 ∨ op = 13 ∨ op = 14 then ([117], true)
  else if op = 15 then ([98], true)
  else if op = 16 ∨ op = 22 then ([117, 98], true)
  else if op = 17 ∨ op = 18 ∨ op = 21 then ([117, 115], true)
  else if op = 19 then ([115], true)
  else ([], false)

set_option maxRecDepth 100000 in
set_option maxHeartbeats 4000000 in
theorem callShape_any (op : Int) (w : World) :
    Calls Try.prog 66 #[.int .i64 op] w fun e w' => e = .returned (.tuple #[.string ⟨(shape op).1.toArray⟩, .bool (shape op).2]) ∧ w = w' := by
  go_enter Try.func66, Try.ntmps66
  go_wp2_with fail
  all_goals
    go_ret2
    exact ⟨by simp_all [shape], rfl⟩

theorem ret_bool {a b : Bool} (h : a = b) : Ending.returned (.bool a) = .returned (.bool b) := by rw [h]

def movesB (op : Int) : Bool := decide (op = 64 ∨ (1 ≤ op ∧ op ≤ 4))
set_option maxRecDepth 100000 in
set_option maxHeartbeats 4000000 in
theorem moves_any (op a b : Int) (ad : Option Addr) (n c : Nat) (w : World) :
    Calls Try.prog 43 #[.agg #[.int .i64 op, .int .i64 a, .int .i64 b, .slice ad n c]] w fun e w' => e = .returned (.bool (movesB op)) ∧ Fr [] w w' := by
  go_enter Try.func43, Try.ntmps43
  go_wp2_with fail
  all_goals
    go_ret
    refine ⟨ret_bool ?_, (Fr.refl _ _).alloc _⟩
    rw [Bool.eq_iff_iff]
    simp [movesB]
    try omega

/-- The operands' ranges of an instruction of shape s. -/
def rightB (op : Int) (s : List UInt8) (a b : Int) : Bool :=
  if op = 64 ∨ op = 192 then decide (0 ≤ a ∧ a < 64)
  else if op = 128 then decide (0 ≤ a ∧ a < 64 ∧ 0 ≤ b ∧ b < 1073741824)
  else if op = 2 then decide (0 ≤ a ∧ a < 256)
  else if op = 3 then decide (0 ≤ a ∧ a < 65536)
  else if op = 4 then decide (0 ≤ a ∧ a < 4294967296)
  else if op = 14 then decide (0 ≤ a ∧ a < 1073741824)
  else if s = [117] ∨ s = [117, 98] then decide (0 ≤ a ∧ a < 65536)
  else if s = [117, 117] then decide (0 ≤ a ∧ a < 65536 ∧ 0 ≤ b ∧ b < 1073741824)
  else if s = [117, 115] then decide (0 ≤ a ∧ a < 65536 ∧ -1073741824 < b ∧ b < 1073741824)
  else if s = [115] then decide (-1073741824 < a ∧ a < 1073741824)
  else true
def callRightB (op a b : Int) (n : Nat) : Bool := (shape op).2 && decide (n ≤ 60) && rightB op (shape op).1 a b

theorem op_cases (op : Int) : (shape op).2 = false ∨ op = 64 ∨ op = 192 ∨ op = 128 ∨ op = 0 ∨ op = 10 ∨ op = 11 ∨ op = 1 ∨ op = 2 ∨ op = 3 ∨ op = 4 ∨ op = 5 ∨ op = 9 ∨ op = 12 ∨ op = 20 ∨
    op = 6 ∨ op = 7 ∨ op = 8 ∨ op = 13 ∨ op = 14 ∨ op = 15 ∨ op = 16 ∨ op = 22 ∨ op = 17 ∨ op = 18 ∨ op = 21 ∨ op = 19 := by
  by_cases h : op = 64 ∨ op = 192 ∨ op = 128 ∨ op = 0 ∨ op = 10 ∨ op = 11 ∨ op = 1 ∨ op = 2 ∨ op = 3 ∨ op = 4 ∨ op = 5 ∨ op = 9 ∨ op = 12 ∨ op = 20 ∨
    op = 6 ∨ op = 7 ∨ op = 8 ∨ op = 13 ∨ op = 14 ∨ op = 15 ∨ op = 16 ∨ op = 22 ∨ op = 17 ∨ op = 18 ∨ op = 21 ∨ op = 19
  · exact .inr h
  · left
    unfold shape
    repeat (rw [if_neg (by omega)])

set_option maxRecDepth 100000 in
set_option maxHeartbeats 8000000 in
theorem callRight_any (op a b : Int) (ad : Option Addr) (n c : Nat) (w : World) :
    Calls Try.prog 42 #[.agg #[.int .i64 op, .int .i64 a, .int .i64 b, .slice ad n c]] w fun e w' => e = .returned (.bool (callRightB op a b n)) ∧ Fr [] w w' := by
  by_cases hn : n ≤ 60
  case neg =>
    have t1 : (60 : Int) < (n : Int) := by omega
    have e : callRightB op a b n = false := by simp [callRightB, hn]
    rw [e]
    clear e
    cases hs : (shape op).2
    all_goals
      have Hs := Lib.hid hs
      clear hs
      go_enter Try.func42, Try.ntmps42
      go_wp2_with (go_at_call 66; go_must (refine (callShape_any _ _).mono ?_; rw [Hs.out]; rintro e w1 ⟨rfl, rfl⟩))
      go_ret
      exact ⟨rfl, (Fr.refl _ _).alloc _⟩
  case pos =>
    have t1 : ¬ (60 : Int) < (n : Int) := by omega
    rcases op_cases op with hs | hop
    · have e : callRightB op a b n = false := by simp [callRightB, hs]
      rw [e]
      clear e
      have Hs := Lib.hid hs
      clear hs
      go_enter Try.func42, Try.ntmps42
      go_wp2_with (go_at_call 66; go_must (refine (callShape_any _ _).mono ?_; rw [Hs.out]; rintro e w1 ⟨rfl, rfl⟩))
      go_ret
      exact ⟨rfl, (Fr.refl _ _).alloc _⟩
    · rcases hop with rfl | rfl | rfl | rfl | rfl | rfl | rfl | rfl | rfl | rfl | rfl | rfl | rfl | rfl | rfl | rfl | rfl | rfl | rfl | rfl | rfl | rfl | rfl | rfl | rfl | rfl
      · have hsh : shape 64 = ([], true) := by decide
        have Hsh := Lib.hid hsh
        clear hsh
        go_enter Try.func42, Try.ntmps42
        go_wp2_with (go_at_call 66; go_must (refine (callShape_any _ _).mono ?_; rw [Hsh.out]; rintro e w1 ⟨rfl, rfl⟩))
        all_goals
          go_ret
          refine ⟨ret_bool ?_, (Fr.refl _ _).alloc _⟩
          rw [Bool.eq_iff_iff]
          simp [callRightB, rightB, shape, hn]
          try omega
      · have hsh : shape 192 = ([], true) := by decide
        have Hsh := Lib.hid hsh
        clear hsh
        go_enter Try.func42, Try.ntmps42
        go_wp2_with (go_at_call 66; go_must (refine (callShape_any _ _).mono ?_; rw [Hsh.out]; rintro e w1 ⟨rfl, rfl⟩))
        all_goals
          go_ret
          refine ⟨ret_bool ?_, (Fr.refl _ _).alloc _⟩
          rw [Bool.eq_iff_iff]
          simp [callRightB, rightB, shape, hn]
          try omega
      · have hsh : shape 128 = ([117], true) := by decide
        have Hsh := Lib.hid hsh
        clear hsh
        go_enter Try.func42, Try.ntmps42
        go_wp2_with (go_at_call 66; go_must (refine (callShape_any _ _).mono ?_; rw [Hsh.out]; rintro e w1 ⟨rfl, rfl⟩))
        all_goals
          go_ret
          refine ⟨ret_bool ?_, (Fr.refl _ _).alloc _⟩
          rw [Bool.eq_iff_iff]
          simp [callRightB, rightB, shape, hn]
          try omega
      · have hsh : shape 0 = ([], true) := by decide
        have Hsh := Lib.hid hsh
        clear hsh
        go_enter Try.func42, Try.ntmps42
        go_wp2_with (go_at_call 66; go_must (refine (callShape_any _ _).mono ?_; rw [Hsh.out]; rintro e w1 ⟨rfl, rfl⟩))
        all_goals
          go_ret
          refine ⟨ret_bool ?_, (Fr.refl _ _).alloc _⟩
          rw [Bool.eq_iff_iff]
          simp [callRightB, rightB, shape, hn]
          try omega
      · have hsh : shape 10 = ([], true) := by decide
        have Hsh := Lib.hid hsh
        clear hsh
        go_enter Try.func42, Try.ntmps42
        go_wp2_with (go_at_call 66; go_must (refine (callShape_any _ _).mono ?_; rw [Hsh.out]; rintro e w1 ⟨rfl, rfl⟩))
        all_goals
          go_ret
          refine ⟨ret_bool ?_, (Fr.refl _ _).alloc _⟩
          rw [Bool.eq_iff_iff]
          simp [callRightB, rightB, shape, hn]
          try omega
      · have hsh : shape 11 = ([], true) := by decide
        have Hsh := Lib.hid hsh
        clear hsh
        go_enter Try.func42, Try.ntmps42
        go_wp2_with (go_at_call 66; go_must (refine (callShape_any _ _).mono ?_; rw [Hsh.out]; rintro e w1 ⟨rfl, rfl⟩))
        all_goals
          go_ret
          refine ⟨ret_bool ?_, (Fr.refl _ _).alloc _⟩
          rw [Bool.eq_iff_iff]
          simp [callRightB, rightB, shape, hn]
          try omega
      · have hsh : shape 1 = ([97], true) := by decide
        have Hsh := Lib.hid hsh
        clear hsh
        go_enter Try.func42, Try.ntmps42
        go_wp2_with (go_at_call 66; go_must (refine (callShape_any _ _).mono ?_; rw [Hsh.out]; rintro e w1 ⟨rfl, rfl⟩))
        all_goals
          go_ret
          refine ⟨ret_bool ?_, (Fr.refl _ _).alloc _⟩
          rw [Bool.eq_iff_iff]
          simp [callRightB, rightB, shape, hn]
          try omega
      · have hsh : shape 2 = ([49], true) := by decide
        have Hsh := Lib.hid hsh
        clear hsh
        go_enter Try.func42, Try.ntmps42
        go_wp2_with (go_at_call 66; go_must (refine (callShape_any _ _).mono ?_; rw [Hsh.out]; rintro e w1 ⟨rfl, rfl⟩))
        all_goals
          go_ret
          refine ⟨ret_bool ?_, (Fr.refl _ _).alloc _⟩
          rw [Bool.eq_iff_iff]
          simp [callRightB, rightB, shape, hn]
          try omega
      · have hsh : shape 3 = ([50], true) := by decide
        have Hsh := Lib.hid hsh
        clear hsh
        go_enter Try.func42, Try.ntmps42
        go_wp2_with (go_at_call 66; go_must (refine (callShape_any _ _).mono ?_; rw [Hsh.out]; rintro e w1 ⟨rfl, rfl⟩))
        all_goals
          go_ret
          refine ⟨ret_bool ?_, (Fr.refl _ _).alloc _⟩
          rw [Bool.eq_iff_iff]
          simp [callRightB, rightB, shape, hn]
          try omega
      · have hsh : shape 4 = ([52], true) := by decide
        have Hsh := Lib.hid hsh
        clear hsh
        go_enter Try.func42, Try.ntmps42
        go_wp2_with (go_at_call 66; go_must (refine (callShape_any _ _).mono ?_; rw [Hsh.out]; rintro e w1 ⟨rfl, rfl⟩))
        all_goals
          go_ret
          refine ⟨ret_bool ?_, (Fr.refl _ _).alloc _⟩
          rw [Bool.eq_iff_iff]
          simp [callRightB, rightB, shape, hn]
          try omega
      · have hsh : shape 5 = ([117, 117], true) := by decide
        have Hsh := Lib.hid hsh
        clear hsh
        go_enter Try.func42, Try.ntmps42
        go_wp2_with (go_at_call 66; go_must (refine (callShape_any _ _).mono ?_; rw [Hsh.out]; rintro e w1 ⟨rfl, rfl⟩))
        all_goals
          go_ret
          refine ⟨ret_bool ?_, (Fr.refl _ _).alloc _⟩
          rw [Bool.eq_iff_iff]
          simp [callRightB, rightB, shape, hn]
          try omega
      · have hsh : shape 9 = ([117, 117], true) := by decide
        have Hsh := Lib.hid hsh
        clear hsh
        go_enter Try.func42, Try.ntmps42
        go_wp2_with (go_at_call 66; go_must (refine (callShape_any _ _).mono ?_; rw [Hsh.out]; rintro e w1 ⟨rfl, rfl⟩))
        all_goals
          go_ret
          refine ⟨ret_bool ?_, (Fr.refl _ _).alloc _⟩
          rw [Bool.eq_iff_iff]
          simp [callRightB, rightB, shape, hn]
          try omega
      · have hsh : shape 12 = ([117, 117], true) := by decide
        have Hsh := Lib.hid hsh
        clear hsh
        go_enter Try.func42, Try.ntmps42
        go_wp2_with (go_at_call 66; go_must (refine (callShape_any _ _).mono ?_; rw [Hsh.out]; rintro e w1 ⟨rfl, rfl⟩))
        all_goals
          go_ret
          refine ⟨ret_bool ?_, (Fr.refl _ _).alloc _⟩
          rw [Bool.eq_iff_iff]
          simp [callRightB, rightB, shape, hn]
          try omega
      · have hsh : shape 20 = ([117, 117], true) := by decide
        have Hsh := Lib.hid hsh
        clear hsh
        go_enter Try.func42, Try.ntmps42
        go_wp2_with (go_at_call 66; go_must (refine (callShape_any _ _).mono ?_; rw [Hsh.out]; rintro e w1 ⟨rfl, rfl⟩))
        all_goals
          go_ret
          refine ⟨ret_bool ?_, (Fr.refl _ _).alloc _⟩
          rw [Bool.eq_iff_iff]
          simp [callRightB, rightB, shape, hn]
          try omega
      · have hsh : shape 6 = ([117], true) := by decide
        have Hsh := Lib.hid hsh
        clear hsh
        go_enter Try.func42, Try.ntmps42
        go_wp2_with (go_at_call 66; go_must (refine (callShape_any _ _).mono ?_; rw [Hsh.out]; rintro e w1 ⟨rfl, rfl⟩))
        all_goals
          go_ret
          refine ⟨ret_bool ?_, (Fr.refl _ _).alloc _⟩
          rw [Bool.eq_iff_iff]
          simp [callRightB, rightB, shape, hn]
          try omega
      · have hsh : shape 7 = ([117], true) := by decide
        have Hsh := Lib.hid hsh
        clear hsh
        go_enter Try.func42, Try.ntmps42
        go_wp2_with (go_at_call 66; go_must (refine (callShape_any _ _).mono ?_; rw [Hsh.out]; rintro e w1 ⟨rfl, rfl⟩))
        all_goals
          go_ret
          refine ⟨ret_bool ?_, (Fr.refl _ _).alloc _⟩
          rw [Bool.eq_iff_iff]
          simp [callRightB, rightB, shape, hn]
          try omega
      · have hsh : shape 8 = ([117], true) := by decide
        have Hsh := Lib.hid hsh
        clear hsh
        go_enter Try.func42, Try.ntmps42
        go_wp2_with (go_at_call 66; go_must (refine (callShape_any _ _).mono ?_; rw [Hsh.out]; rintro e w1 ⟨rfl, rfl⟩))
        all_goals
          go_ret
          refine ⟨ret_bool ?_, (Fr.refl _ _).alloc _⟩
          rw [Bool.eq_iff_iff]
          simp [callRightB, rightB, shape, hn]
          try omega
      · have hsh : shape 13 = ([117], true) := by decide
        have Hsh := Lib.hid hsh
        clear hsh
        go_enter Try.func42, Try.ntmps42
        go_wp2_with (go_at_call 66; go_must (refine (callShape_any _ _).mono ?_; rw [Hsh.out]; rintro e w1 ⟨rfl, rfl⟩))
        all_goals
          go_ret
          refine ⟨ret_bool ?_, (Fr.refl _ _).alloc _⟩
          rw [Bool.eq_iff_iff]
          simp [callRightB, rightB, shape, hn]
          try omega
      · have hsh : shape 14 = ([117], true) := by decide
        have Hsh := Lib.hid hsh
        clear hsh
        go_enter Try.func42, Try.ntmps42
        go_wp2_with (go_at_call 66; go_must (refine (callShape_any _ _).mono ?_; rw [Hsh.out]; rintro e w1 ⟨rfl, rfl⟩))
        all_goals
          go_ret
          refine ⟨ret_bool ?_, (Fr.refl _ _).alloc _⟩
          rw [Bool.eq_iff_iff]
          simp [callRightB, rightB, shape, hn]
          try omega
      · have hsh : shape 15 = ([98], true) := by decide
        have Hsh := Lib.hid hsh
        clear hsh
        go_enter Try.func42, Try.ntmps42
        go_wp2_with (go_at_call 66; go_must (refine (callShape_any _ _).mono ?_; rw [Hsh.out]; rintro e w1 ⟨rfl, rfl⟩))
        all_goals
          go_ret
          refine ⟨ret_bool ?_, (Fr.refl _ _).alloc _⟩
          rw [Bool.eq_iff_iff]
          simp [callRightB, rightB, shape, hn]
          try omega
      · have hsh : shape 16 = ([117, 98], true) := by decide
        have Hsh := Lib.hid hsh
        clear hsh
        go_enter Try.func42, Try.ntmps42
        go_wp2_with (go_at_call 66; go_must (refine (callShape_any _ _).mono ?_; rw [Hsh.out]; rintro e w1 ⟨rfl, rfl⟩))
        all_goals
          go_ret
          refine ⟨ret_bool ?_, (Fr.refl _ _).alloc _⟩
          rw [Bool.eq_iff_iff]
          simp [callRightB, rightB, shape, hn]
          try omega
      · have hsh : shape 22 = ([117, 98], true) := by decide
        have Hsh := Lib.hid hsh
        clear hsh
        go_enter Try.func42, Try.ntmps42
        go_wp2_with (go_at_call 66; go_must (refine (callShape_any _ _).mono ?_; rw [Hsh.out]; rintro e w1 ⟨rfl, rfl⟩))
        all_goals
          go_ret
          refine ⟨ret_bool ?_, (Fr.refl _ _).alloc _⟩
          rw [Bool.eq_iff_iff]
          simp [callRightB, rightB, shape, hn]
          try omega
      · have hsh : shape 17 = ([117, 115], true) := by decide
        have Hsh := Lib.hid hsh
        clear hsh
        go_enter Try.func42, Try.ntmps42
        go_wp2_with (go_at_call 66; go_must (refine (callShape_any _ _).mono ?_; rw [Hsh.out]; rintro e w1 ⟨rfl, rfl⟩))
        all_goals
          go_ret
          refine ⟨ret_bool ?_, (Fr.refl _ _).alloc _⟩
          rw [Bool.eq_iff_iff]
          simp [callRightB, rightB, shape, hn]
          try omega
      · have hsh : shape 18 = ([117, 115], true) := by decide
        have Hsh := Lib.hid hsh
        clear hsh
        go_enter Try.func42, Try.ntmps42
        go_wp2_with (go_at_call 66; go_must (refine (callShape_any _ _).mono ?_; rw [Hsh.out]; rintro e w1 ⟨rfl, rfl⟩))
        all_goals
          go_ret
          refine ⟨ret_bool ?_, (Fr.refl _ _).alloc _⟩
          rw [Bool.eq_iff_iff]
          simp [callRightB, rightB, shape, hn]
          try omega
      · have hsh : shape 21 = ([117, 115], true) := by decide
        have Hsh := Lib.hid hsh
        clear hsh
        go_enter Try.func42, Try.ntmps42
        go_wp2_with (go_at_call 66; go_must (refine (callShape_any _ _).mono ?_; rw [Hsh.out]; rintro e w1 ⟨rfl, rfl⟩))
        all_goals
          go_ret
          refine ⟨ret_bool ?_, (Fr.refl _ _).alloc _⟩
          rw [Bool.eq_iff_iff]
          simp [callRightB, rightB, shape, hn]
          try omega
      · have hsh : shape 19 = ([115], true) := by decide
        have Hsh := Lib.hid hsh
        clear hsh
        go_enter Try.func42, Try.ntmps42
        go_wp2_with (go_at_call 66; go_must (refine (callShape_any _ _).mono ?_; rw [Hsh.out]; rintro e w1 ⟨rfl, rfl⟩))
        all_goals
          go_ret
          refine ⟨ret_bool ?_, (Fr.refl _ _).alloc _⟩
          rw [Bool.eq_iff_iff]
          simp [callRightB, rightB, shape, hn]
          try omega
end Go.Proofs.Ytahohmdfllgedaa
