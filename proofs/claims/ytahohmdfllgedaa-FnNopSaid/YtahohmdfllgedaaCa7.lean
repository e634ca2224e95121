/- The reference's evaluation: operate. Printed by gen_eoper.py. -/
import Derived.Test.YtahohmdfllgedaaCa6
set_option linter.unusedVariables false
set_option linter.unusedSimpArgs false
namespace Go.Proofs.Ytahohmdfllgedaa
open Go.RowKit

theorem popS_len (s : LSt) : (popS s).2.stack.length ≤ s.stack.length := by
  rcases List.eq_nil_or_concat s.stack with hs | ⟨l, v, hs⟩
  · rw [popS_nil hs]; exact Nat.le_refl _
  · have hs' : s.stack = l ++ [v] := by simpa using hs
    rw [popS_snoc hs', hs']; simp
theorem pushS_len (v : Int) (s : LSt) : (pushS v s).stack.length = s.stack.length + 1 := by simp [pushS]
theorem loadS_len (x : LWorld) (a n : Nat) (s : LSt) : (loadS x a n s).2.stack = s.stack := by unfold loadS; split <;> rfl
theorem registerS_len (x : LWorld) (n : Int) (s : LSt) : (registerS x n s).2.stack = s.stack := by unfold registerS; split <;> rfl

set_option maxRecDepth 100000 in
set_option maxHeartbeats 2000000 in
theorem operate_18 (W0 : World) (x : LWorld) (rv mv : Value) (sb : Nat) (w : World) (s : LSt) (a b : Int) (dv : Value) (h : StR W0 x rv mv sb w s) (hl : s.stack.length ≤ 999990) :
    Calls Try.prog 75 #[.pointer (some ⟨sb, 0, none⟩), .agg #[vi 18, vi a, vi b, dv]] w fun e w' => e = .returned (.tuple #[]) ∧ StP W0 x rv mv sb w (pushS (popS s).1 (pushS (popS s).1 (popS s).2)) w' := by
  have HS0 : Hid (StR W0 x rv mv sb (w.alloc (.cells #[vi 18, vi a, vi b, dv] 48)) s) := h.call ((Fr.refl _ _).alloc _)
  have HB0 : Hid ((w.alloc (.cells #[vi 18, vi a, vi b, dv] 48)).heap[w.heap.size]? = some (.cells #[vi 18, vi a, vi b, dv] 48 (0, 0))) := blk_new _ _
  have HT0 : Hid (FrT TS w (w.alloc (.cells #[vi 18, vi a, vi b, dv] 48))) := .of0 ((Fr.refl _ _).alloc _)
  clear h
  go_enter Try.func75, Try.ntmps75
  go_wp2_with fail
  refine (pop_any W0 x rv mv sb _ _ HS0.out).mono ?_
  rintro e w1 ⟨rfl, hs1, hf1⟩
  have HS1 := Lib.hid hs1
  have HT1 := Lib.hid (HT0.out.trans hf1)
  have HB1 := Lib.hid (hf1.get HB0.out (by decide))
  clear hs1 hf1
  go_wp2_with fail
  refine (push_any W0 x rv mv sb _ _ _ HS1.out (by have := popS_len s; (try simp only [pushS_len]); omega)).mono ?_
  rintro e w2 ⟨rfl, hs1, hf1⟩
  have HS2 := Lib.hid hs1
  have HT2 := Lib.hid (HT1.out.trans hf1)
  have HB2 := Lib.hid (hf1.get HB1.out (by decide))
  clear hs1 hf1
  go_wp2_with fail
  refine (push_any W0 x rv mv sb _ _ _ HS2.out (by have := popS_len s; (try simp only [pushS_len]); omega)).mono ?_
  rintro e w3 ⟨rfl, hs1, hf1⟩
  have HS3 := Lib.hid hs1
  have HT3 := Lib.hid (HT2.out.trans hf1)
  have HB3 := Lib.hid (hf1.get HB2.out (by decide))
  clear hs1 hf1
  go_wp2_with fail
  go_end0
  exact ⟨rfl, HS3.out, HT3.out⟩

set_option maxRecDepth 100000 in
set_option maxHeartbeats 2000000 in
theorem operate_19 (W0 : World) (x : LWorld) (rv mv : Value) (sb : Nat) (w : World) (s : LSt) (a b : Int) (dv : Value) (h : StR W0 x rv mv sb w s) (hl : s.stack.length ≤ 999990) :
    Calls Try.prog 75 #[.pointer (some ⟨sb, 0, none⟩), .agg #[vi 19, vi a, vi b, dv]] w fun e w' => e = .returned (.tuple #[]) ∧ StP W0 x rv mv sb w ((popS s).2) w' := by
  have HS0 : Hid (StR W0 x rv mv sb (w.alloc (.cells #[vi 19, vi a, vi b, dv] 48)) s) := h.call ((Fr.refl _ _).alloc _)
  have HB0 : Hid ((w.alloc (.cells #[vi 19, vi a, vi b, dv] 48)).heap[w.heap.size]? = some (.cells #[vi 19, vi a, vi b, dv] 48 (0, 0))) := blk_new _ _
  have HT0 : Hid (FrT TS w (w.alloc (.cells #[vi 19, vi a, vi b, dv] 48))) := .of0 ((Fr.refl _ _).alloc _)
  clear h
  go_enter Try.func75, Try.ntmps75
  go_wp2_with fail
  refine (pop_any W0 x rv mv sb _ _ HS0.out).mono ?_
  rintro e w1 ⟨rfl, hs1, hf1⟩
  have HS1 := Lib.hid hs1
  have HT1 := Lib.hid (HT0.out.trans hf1)
  have HB1 := Lib.hid (hf1.get HB0.out (by decide))
  clear hs1 hf1
  go_wp2_with fail
  go_end0
  exact ⟨rfl, HS1.out, HT1.out⟩

set_option maxRecDepth 100000 in
set_option maxHeartbeats 2000000 in
theorem operate_22 (W0 : World) (x : LWorld) (rv mv : Value) (sb : Nat) (w : World) (s : LSt) (a b : Int) (dv : Value) (h : StR W0 x rv mv sb w s) (hl : s.stack.length ≤ 999990) :
    Calls Try.prog 75 #[.pointer (some ⟨sb, 0, none⟩), .agg #[vi 22, vi a, vi b, dv]] w fun e w' => e = .returned (.tuple #[]) ∧ StP W0 x rv mv sb w (pushS (popS (popS s).2).1 (pushS (popS s).1 (popS (popS s).2).2)) w' := by
  have HS0 : Hid (StR W0 x rv mv sb (w.alloc (.cells #[vi 22, vi a, vi b, dv] 48)) s) := h.call ((Fr.refl _ _).alloc _)
  have HB0 : Hid ((w.alloc (.cells #[vi 22, vi a, vi b, dv] 48)).heap[w.heap.size]? = some (.cells #[vi 22, vi a, vi b, dv] 48 (0, 0))) := blk_new _ _
  have HT0 : Hid (FrT TS w (w.alloc (.cells #[vi 22, vi a, vi b, dv] 48))) := .of0 ((Fr.refl _ _).alloc _)
  clear h
  go_enter Try.func75, Try.ntmps75
  go_wp2_with fail
  refine (pop_any W0 x rv mv sb _ _ HS0.out).mono ?_
  rintro e w1 ⟨rfl, hs1, hf1⟩
  have HS1 := Lib.hid hs1
  have HT1 := Lib.hid (HT0.out.trans hf1)
  have HB1 := Lib.hid (hf1.get HB0.out (by decide))
  clear hs1 hf1
  go_wp2_with fail
  refine (pop_any W0 x rv mv sb _ _ HS1.out).mono ?_
  rintro e w2 ⟨rfl, hs1, hf1⟩
  have HS2 := Lib.hid hs1
  have HT2 := Lib.hid (HT1.out.trans hf1)
  have HB2 := Lib.hid (hf1.get HB1.out (by decide))
  clear hs1 hf1
  go_wp2_with fail
  refine (push_any W0 x rv mv sb _ _ _ HS2.out (by have := popS_len s; have := popS_len (popS s).2; (try simp only [pushS_len]); omega)).mono ?_
  rintro e w3 ⟨rfl, hs1, hf1⟩
  have HS3 := Lib.hid hs1
  have HT3 := Lib.hid (HT2.out.trans hf1)
  have HB3 := Lib.hid (hf1.get HB2.out (by decide))
  clear hs1 hf1
  go_wp2_with fail
  refine (push_any W0 x rv mv sb _ _ _ HS3.out (by have := popS_len s; have := popS_len (popS s).2; (try simp only [pushS_len]); omega)).mono ?_
  rintro e w4 ⟨rfl, hs1, hf1⟩
  have HS4 := Lib.hid hs1
  have HT4 := Lib.hid (HT3.out.trans hf1)
  have HB4 := Lib.hid (hf1.get HB3.out (by decide))
  clear hs1 hf1
  go_wp2_with fail
  go_end0
  exact ⟨rfl, HS4.out, HT4.out⟩

set_option maxRecDepth 100000 in
set_option maxHeartbeats 2000000 in
theorem operate_23 (W0 : World) (x : LWorld) (rv mv : Value) (sb : Nat) (w : World) (s : LSt) (a b : Int) (dv : Value) (h : StR W0 x rv mv sb w s) (hl : s.stack.length ≤ 999990) :
    Calls Try.prog 75 #[.pointer (some ⟨sb, 0, none⟩), .agg #[vi 23, vi a, vi b, dv]] w fun e w' => e = .returned (.tuple #[]) ∧ StP W0 x rv mv sb w (pushS (popS (popS s).2).1 (pushS (popS (popS (popS s).2).2).1 (pushS (popS s).1 (popS (popS (popS s).2).2).2))) w' := by
  have HS0 : Hid (StR W0 x rv mv sb (w.alloc (.cells #[vi 23, vi a, vi b, dv] 48)) s) := h.call ((Fr.refl _ _).alloc _)
  have HB0 : Hid ((w.alloc (.cells #[vi 23, vi a, vi b, dv] 48)).heap[w.heap.size]? = some (.cells #[vi 23, vi a, vi b, dv] 48 (0, 0))) := blk_new _ _
  have HT0 : Hid (FrT TS w (w.alloc (.cells #[vi 23, vi a, vi b, dv] 48))) := .of0 ((Fr.refl _ _).alloc _)
  clear h
  go_enter Try.func75, Try.ntmps75
  go_wp2_with fail
  refine (pop_any W0 x rv mv sb _ _ HS0.out).mono ?_
  rintro e w1 ⟨rfl, hs1, hf1⟩
  have HS1 := Lib.hid hs1
  have HT1 := Lib.hid (HT0.out.trans hf1)
  have HB1 := Lib.hid (hf1.get HB0.out (by decide))
  clear hs1 hf1
  go_wp2_with fail
  refine (pop_any W0 x rv mv sb _ _ HS1.out).mono ?_
  rintro e w2 ⟨rfl, hs1, hf1⟩
  have HS2 := Lib.hid hs1
  have HT2 := Lib.hid (HT1.out.trans hf1)
  have HB2 := Lib.hid (hf1.get HB1.out (by decide))
  clear hs1 hf1
  go_wp2_with fail
  refine (pop_any W0 x rv mv sb _ _ HS2.out).mono ?_
  rintro e w3 ⟨rfl, hs1, hf1⟩
  have HS3 := Lib.hid hs1
  have HT3 := Lib.hid (HT2.out.trans hf1)
  have HB3 := Lib.hid (hf1.get HB2.out (by decide))
  clear hs1 hf1
  go_wp2_with fail
  refine (push_any W0 x rv mv sb _ _ _ HS3.out (by have := popS_len s; have := popS_len (popS s).2; have := popS_len (popS (popS s).2).2; (try simp only [pushS_len]); omega)).mono ?_
  rintro e w4 ⟨rfl, hs1, hf1⟩
  have HS4 := Lib.hid hs1
  have HT4 := Lib.hid (HT3.out.trans hf1)
  have HB4 := Lib.hid (hf1.get HB3.out (by decide))
  clear hs1 hf1
  go_wp2_with fail
  refine (push_any W0 x rv mv sb _ _ _ HS4.out (by have := popS_len s; have := popS_len (popS s).2; have := popS_len (popS (popS s).2).2; (try simp only [pushS_len]); omega)).mono ?_
  rintro e w5 ⟨rfl, hs1, hf1⟩
  have HS5 := Lib.hid hs1
  have HT5 := Lib.hid (HT4.out.trans hf1)
  have HB5 := Lib.hid (hf1.get HB4.out (by decide))
  clear hs1 hf1
  go_wp2_with fail
  refine (push_any W0 x rv mv sb _ _ _ HS5.out (by have := popS_len s; have := popS_len (popS s).2; have := popS_len (popS (popS s).2).2; (try simp only [pushS_len]); omega)).mono ?_
  rintro e w6 ⟨rfl, hs1, hf1⟩
  have HS6 := Lib.hid hs1
  have HT6 := Lib.hid (HT5.out.trans hf1)
  have HB6 := Lib.hid (hf1.get HB5.out (by decide))
  clear hs1 hf1
  go_wp2_with fail
  go_end0
  exact ⟨rfl, HS6.out, HT6.out⟩

set_option maxRecDepth 100000 in
set_option maxHeartbeats 2000000 in
theorem operate_31 (W0 : World) (x : LWorld) (rv mv : Value) (sb : Nat) (w : World) (s : LSt) (a b : Int) (dv : Value) (h : StR W0 x rv mv sb w s) (hl : s.stack.length ≤ 999990) :
    Calls Try.prog 75 #[.pointer (some ⟨sb, 0, none⟩), .agg #[vi 31, vi a, vi b, dv]] w fun e w' => e = .returned (.tuple #[]) ∧ StP W0 x rv mv sb w (pushS (wrap64 (-(popS s).1)) (popS s).2) w' := by
  have HS0 : Hid (StR W0 x rv mv sb (w.alloc (.cells #[vi 31, vi a, vi b, dv] 48)) s) := h.call ((Fr.refl _ _).alloc _)
  have HB0 : Hid ((w.alloc (.cells #[vi 31, vi a, vi b, dv] 48)).heap[w.heap.size]? = some (.cells #[vi 31, vi a, vi b, dv] 48 (0, 0))) := blk_new _ _
  have HT0 : Hid (FrT TS w (w.alloc (.cells #[vi 31, vi a, vi b, dv] 48))) := .of0 ((Fr.refl _ _).alloc _)
  clear h
  go_enter Try.func75, Try.ntmps75
  go_wp2_with fail
  refine (pop_any W0 x rv mv sb _ _ HS0.out).mono ?_
  rintro e w1 ⟨rfl, hs1, hf1⟩
  have HS1 := Lib.hid hs1
  have HT1 := Lib.hid (HT0.out.trans hf1)
  have HB1 := Lib.hid (hf1.get HB0.out (by decide))
  clear hs1 hf1
  go_wp2_with fail
  refine (push_any W0 x rv mv sb _ _ _ HS1.out (by have := popS_len s; (try simp only [pushS_len]); omega)).mono ?_
  rintro e w2 ⟨rfl, hs1, hf1⟩
  have HS2 := Lib.hid hs1
  have HT2 := Lib.hid (HT1.out.trans hf1)
  have HB2 := Lib.hid (hf1.get HB1.out (by decide))
  clear hs1 hf1
  go_wp2_with fail
  go_end0
  exact ⟨rfl, HS2.out, HT2.out⟩

set_option maxRecDepth 100000 in
set_option maxHeartbeats 2000000 in
theorem operate_32 (W0 : World) (x : LWorld) (rv mv : Value) (sb : Nat) (w : World) (s : LSt) (a b : Int) (dv : Value) (h : StR W0 x rv mv sb w s) (hl : s.stack.length ≤ 999990) :
    Calls Try.prog 75 #[.pointer (some ⟨sb, 0, none⟩), .agg #[vi 32, vi a, vi b, dv]] w fun e w' => e = .returned (.tuple #[]) ∧ StP W0 x rv mv sb w (pushS (bits .xor .i64 (-1) (popS s).1) (popS s).2) w' := by
  have HS0 : Hid (StR W0 x rv mv sb (w.alloc (.cells #[vi 32, vi a, vi b, dv] 48)) s) := h.call ((Fr.refl _ _).alloc _)
  have HB0 : Hid ((w.alloc (.cells #[vi 32, vi a, vi b, dv] 48)).heap[w.heap.size]? = some (.cells #[vi 32, vi a, vi b, dv] 48 (0, 0))) := blk_new _ _
  have HT0 : Hid (FrT TS w (w.alloc (.cells #[vi 32, vi a, vi b, dv] 48))) := .of0 ((Fr.refl _ _).alloc _)
  clear h
  go_enter Try.func75, Try.ntmps75
  go_wp2_with fail
  refine (pop_any W0 x rv mv sb _ _ HS0.out).mono ?_
  rintro e w1 ⟨rfl, hs1, hf1⟩
  have HS1 := Lib.hid hs1
  have HT1 := Lib.hid (HT0.out.trans hf1)
  have HB1 := Lib.hid (hf1.get HB0.out (by decide))
  clear hs1 hf1
  go_wp2_with fail
  refine (push_any W0 x rv mv sb _ _ _ HS1.out (by have := popS_len s; (try simp only [pushS_len]); omega)).mono ?_
  rintro e w2 ⟨rfl, hs1, hf1⟩
  have HS2 := Lib.hid hs1
  have HT2 := Lib.hid (HT1.out.trans hf1)
  have HB2 := Lib.hid (hf1.get HB1.out (by decide))
  clear hs1 hf1
  go_wp2_with fail
  go_end0
  exact ⟨rfl, HS2.out, HT2.out⟩

set_option maxRecDepth 100000 in
set_option maxHeartbeats 2000000 in
theorem operate_25a (W0 : World) (x : LWorld) (rv mv : Value) (sb : Nat) (w : World) (s : LSt) (a b : Int) (dv : Value) (h : StR W0 x rv mv sb w s) (hl : s.stack.length ≤ 999990) (hv : (popS s).1 < 0) :
    Calls Try.prog 75 #[.pointer (some ⟨sb, 0, none⟩), .agg #[vi 25, vi a, vi b, dv]] w fun e w' => e = .returned (.tuple #[]) ∧ StP W0 x rv mv sb w (pushS (wrap64 (-(popS s).1)) (popS s).2) w' := by
  have HS0 : Hid (StR W0 x rv mv sb (w.alloc (.cells #[vi 25, vi a, vi b, dv] 48)) s) := h.call ((Fr.refl _ _).alloc _)
  have HB0 : Hid ((w.alloc (.cells #[vi 25, vi a, vi b, dv] 48)).heap[w.heap.size]? = some (.cells #[vi 25, vi a, vi b, dv] 48 (0, 0))) := blk_new _ _
  have HT0 : Hid (FrT TS w (w.alloc (.cells #[vi 25, vi a, vi b, dv] 48))) := .of0 ((Fr.refl _ _).alloc _)
  clear h
  go_enter Try.func75, Try.ntmps75
  go_wp2_with fail
  refine (pop_any W0 x rv mv sb _ _ HS0.out).mono ?_
  rintro e w1 ⟨rfl, hs1, hf1⟩
  have HS1 := Lib.hid hs1
  have HT1 := Lib.hid (HT0.out.trans hf1)
  have HB1 := Lib.hid (hf1.get HB0.out (by decide))
  clear hs1 hf1
  go_wp2_with fail
  refine (push_any W0 x rv mv sb _ _ _ HS1.out (by have := popS_len s; (try simp only [pushS_len]); omega)).mono ?_
  rintro e w2 ⟨rfl, hs1, hf1⟩
  have HS2 := Lib.hid hs1
  have HT2 := Lib.hid (HT1.out.trans hf1)
  have HB2 := Lib.hid (hf1.get HB1.out (by decide))
  clear hs1 hf1
  go_wp2_with fail
  go_end0
  exact ⟨rfl, HS2.out, HT2.out⟩

set_option maxRecDepth 100000 in
set_option maxHeartbeats 2000000 in
theorem operate_25b (W0 : World) (x : LWorld) (rv mv : Value) (sb : Nat) (w : World) (s : LSt) (a b : Int) (dv : Value) (h : StR W0 x rv mv sb w s) (hl : s.stack.length ≤ 999990) (hv : ¬ (popS s).1 < 0) :
    Calls Try.prog 75 #[.pointer (some ⟨sb, 0, none⟩), .agg #[vi 25, vi a, vi b, dv]] w fun e w' => e = .returned (.tuple #[]) ∧ StP W0 x rv mv sb w (pushS (popS s).1 (popS s).2) w' := by
  have HS0 : Hid (StR W0 x rv mv sb (w.alloc (.cells #[vi 25, vi a, vi b, dv] 48)) s) := h.call ((Fr.refl _ _).alloc _)
  have HB0 : Hid ((w.alloc (.cells #[vi 25, vi a, vi b, dv] 48)).heap[w.heap.size]? = some (.cells #[vi 25, vi a, vi b, dv] 48 (0, 0))) := blk_new _ _
  have HT0 : Hid (FrT TS w (w.alloc (.cells #[vi 25, vi a, vi b, dv] 48))) := .of0 ((Fr.refl _ _).alloc _)
  clear h
  go_enter Try.func75, Try.ntmps75
  go_wp2_with fail
  refine (pop_any W0 x rv mv sb _ _ HS0.out).mono ?_
  rintro e w1 ⟨rfl, hs1, hf1⟩
  have HS1 := Lib.hid hs1
  have HT1 := Lib.hid (HT0.out.trans hf1)
  have HB1 := Lib.hid (hf1.get HB0.out (by decide))
  clear hs1 hf1
  go_wp2_with fail
  refine (push_any W0 x rv mv sb _ _ _ HS1.out (by have := popS_len s; (try simp only [pushS_len]); omega)).mono ?_
  rintro e w2 ⟨rfl, hs1, hf1⟩
  have HS2 := Lib.hid hs1
  have HT2 := Lib.hid (HT1.out.trans hf1)
  have HB2 := Lib.hid (hf1.get HB1.out (by decide))
  clear hs1 hf1
  go_wp2_with fail
  go_end0
  exact ⟨rfl, HS2.out, HT2.out⟩

set_option maxRecDepth 100000 in
set_option maxHeartbeats 2000000 in
theorem operate_6 (W0 : World) (x : LWorld) (rv mv : Value) (sb : Nat) (w : World) (s : LSt) (a b : Int) (dv : Value) (h : StR W0 x rv mv sb w s) (hl : s.stack.length ≤ 999990) :
    Calls Try.prog 75 #[.pointer (some ⟨sb, 0, none⟩), .agg #[vi 6, vi a, vi b, dv]] w fun e w' => e = .returned (.tuple #[]) ∧ StP W0 x rv mv sb w (pushS (loadS x (u64of (popS s).1) 8 (popS s).2).1 (loadS x (u64of (popS s).1) 8 (popS s).2).2) w' := by
  have HS0 : Hid (StR W0 x rv mv sb (w.alloc (.cells #[vi 6, vi a, vi b, dv] 48)) s) := h.call ((Fr.refl _ _).alloc _)
  have HB0 : Hid ((w.alloc (.cells #[vi 6, vi a, vi b, dv] 48)).heap[w.heap.size]? = some (.cells #[vi 6, vi a, vi b, dv] 48 (0, 0))) := blk_new _ _
  have HT0 : Hid (FrT TS w (w.alloc (.cells #[vi 6, vi a, vi b, dv] 48))) := .of0 ((Fr.refl _ _).alloc _)
  clear h
  have hu1 : IntKind.u64.wrap (popS s).1 = ((u64of (popS s).1 : Nat) : Int) := by rw [IntKind.wrap_u64]; exact u64of_cast _
  have U := u64of_lt (popS s).1
  go_enter Try.func75, Try.ntmps75
  go_wp2_with fail
  refine (pop_any W0 x rv mv sb _ _ HS0.out).mono ?_
  rintro e w1 ⟨rfl, hs1, hf1⟩
  have HS1 := Lib.hid hs1
  have HT1 := Lib.hid (HT0.out.trans hf1)
  have HB1 := Lib.hid (hf1.get HB0.out (by decide))
  clear hs1 hf1
  go_wp2_with fail
  refine (load_any W0 x rv mv sb _ _ _ 8 HS1.out U (by decide)).mono ?_
  rintro e w2 ⟨rfl, hs1, hf1⟩
  have HS2 := Lib.hid hs1
  have HT2 := Lib.hid (HT1.out.trans hf1)
  have HB2 := Lib.hid (hf1.get HB1.out (by decide))
  clear hs1 hf1
  go_wp2_with fail
  refine (push_any W0 x rv mv sb _ _ _ HS2.out (by rw [loadS_len]; have := popS_len s; omega)).mono ?_
  rintro e w3 ⟨rfl, hs1, hf1⟩
  have HS3 := Lib.hid hs1
  have HT3 := Lib.hid (HT2.out.trans hf1)
  have HB3 := Lib.hid (hf1.get HB2.out (by decide))
  clear hs1 hf1
  go_wp2_with fail
  go_end0
  exact ⟨rfl, HS3.out, HT3.out⟩

set_option maxRecDepth 100000 in
set_option maxHeartbeats 2000000 in
theorem operate_20b (W0 : World) (x : LWorld) (rv mv : Value) (sb : Nat) (w : World) (s : LSt) (a b : Int) (dv : Value) (h : StR W0 x rv mv sb w s) (hl : s.stack.length ≤ 999990) (hk : (s.stack.length : Int) ≤ 1) :
    Calls Try.prog 75 #[.pointer (some ⟨sb, 0, none⟩), .agg #[vi 20, vi a, vi b, dv]] w fun e w' => e = .returned (.tuple #[]) ∧ StP W0 x rv mv sb w (s.mkBad) w' := by
  have HS0 : Hid (StR W0 x rv mv sb (w.alloc (.cells #[vi 20, vi a, vi b, dv] 48)) s) := h.call ((Fr.refl _ _).alloc _)
  have HB0 : Hid ((w.alloc (.cells #[vi 20, vi a, vi b, dv] 48)).heap[w.heap.size]? = some (.cells #[vi 20, vi a, vi b, dv] 48 (0, 0))) := blk_new _ _
  have HT0 : Hid (FrT TS w (w.alloc (.cells #[vi 20, vi a, vi b, dv] 48))) := .of0 ((Fr.refl _ _).alloc _)
  clear h
  obtain ⟨kv, pv, lv, qs, hv⟩ := HS0.out
  have c9 : (w.alloc (.cells #[vi 20, vi a, vi b, dv] 48)).cell? ⟨sb, 9, none⟩ = some (.bool s.bad) := hv.cell 9
  have f9 := hv.free 9
  obtain ⟨ka, kc, rfl⟩ := own_slice hv.own
  have c5 : (w.alloc (.cells #[vi 20, vi a, vi b, dv] 48)).cell? ⟨sb, 5, none⟩ = some (.slice ka s.stack.length kc) := hv.cell 5
  have HV := Lib.hid hv
  clear hv
  go_enter Try.func75, Try.ntmps75
  go_wp2_with fail
  refine bodyPost_ret (results_none rfl _ _ _) rfl ?_
  exact ⟨rfl, HV.out.bad.1, HT0.out.trans HV.out.bad.2⟩

set_option maxRecDepth 100000 in
set_option maxHeartbeats 2000000 in
theorem operate_20 (W0 : World) (x : LWorld) (rv mv : Value) (sb : Nat) (w : World) (s : LSt) (a b : Int) (dv : Value) (h : StR W0 x rv mv sb w s) (hl : s.stack.length ≤ 999990) (hk : ¬ (s.stack.length : Int) ≤ 1) (h0 : 0 ≤ 1) :
    Calls Try.prog 75 #[.pointer (some ⟨sb, 0, none⟩), .agg #[vi 20, vi a, vi b, dv]] w fun e w' => e = .returned (.tuple #[]) ∧ StP W0 x rv mv sb w (pushS (s.stack.getD ((s.stack.length : Int) - 1 - 1).toNat 0) s) w' := by
  have HS0 : Hid (StR W0 x rv mv sb (w.alloc (.cells #[vi 20, vi a, vi b, dv] 48)) s) := h.call ((Fr.refl _ _).alloc _)
  have HB0 : Hid ((w.alloc (.cells #[vi 20, vi a, vi b, dv] 48)).heap[w.heap.size]? = some (.cells #[vi 20, vi a, vi b, dv] 48 (0, 0))) := blk_new _ _
  have HT0 : Hid (FrT TS w (w.alloc (.cells #[vi 20, vi a, vi b, dv] 48))) := .of0 ((Fr.refl _ _).alloc _)
  clear h
  obtain ⟨kv, pv, lv, qs, hv⟩ := HS0.out
  obtain ⟨g, kc, rfl, h1, h2, hc⟩ := own_vis hv.own (by omega)
  have c5 : (w.alloc (.cells #[vi 20, vi a, vi b, dv] 48)).cell? ⟨sb, 5, none⟩ = some (.slice (some ⟨g, 0, none⟩) s.stack.length kc) := hv.cell 5
  obtain ⟨m, hm⟩ : ∃ m : Nat, (s.stack.length : Int) - 1 - 1 = m := ⟨((s.stack.length : Int) - 1 - 1).toNat, by omega⟩
  have hm2 : m < s.stack.length := by omega
  have cx := hc m hm2
  have eg : s.stack.getD ((s.stack.length : Int) - 1 - 1).toNat 0 = s.stack[m] := by rw [hm]; simp [hm2]
  rw [eg]
  unfold maxLen at h2
  have e1 : IntKind.i64.wrap ((s.stack.length : Int) - 1) = (s.stack.length : Int) - 1 := IntWalk.i64_in _ (by omega)
  have e2 : IntKind.i64.wrap ((s.stack.length : Int) - 1 - 1) = m := by rw [hm]; exact IntWalk.i64_in _ (by omega)
  have e3 : (0 : Int) ≤ (m : Int) := by omega
  have e4 : (m : Int) < (s.stack.length : Int) := by omega
  have e5 : ¬ (s.stack.length : Int) ≤ 1 := hk
  generalize s.stack[m] = y at *
  clear hv hc eg hm
  go_enter Try.func75, Try.ntmps75
  go_wp2_with fail
  go_region_law ((go_simp; go_at_call 71; go_must (refine (push_any W0 x rv mv sb _ s _ (HS0.out.call (by first | exact (Fr.refl _ _).drew | exact Fr.refl _ _)) (by omega)).mono ?_); rintro e w1 ⟨rfl, hs1, hf1⟩; have HS1 := Lib.hid hs1; have HT1 := Lib.hid (HT0.out.drew.trans hf1); clear hs1 hf1))
  all_goals
    go_wp2_with fail
    go_end0
    exact ⟨rfl, HS1.out, HT1.out⟩

set_option maxRecDepth 100000 in
set_option maxHeartbeats 2000000 in
theorem operate_21b (W0 : World) (x : LWorld) (rv mv : Value) (sb : Nat) (w : World) (s : LSt) (a b : Int) (dv : Value) (h : StR W0 x rv mv sb w s) (hl : s.stack.length ≤ 999990) (hk : (s.stack.length : Int) ≤ a) :
    Calls Try.prog 75 #[.pointer (some ⟨sb, 0, none⟩), .agg #[vi 21, vi a, vi b, dv]] w fun e w' => e = .returned (.tuple #[]) ∧ StP W0 x rv mv sb w (s.mkBad) w' := by
  have HS0 : Hid (StR W0 x rv mv sb (w.alloc (.cells #[vi 21, vi a, vi b, dv] 48)) s) := h.call ((Fr.refl _ _).alloc _)
  have HB0 : Hid ((w.alloc (.cells #[vi 21, vi a, vi b, dv] 48)).heap[w.heap.size]? = some (.cells #[vi 21, vi a, vi b, dv] 48 (0, 0))) := blk_new _ _
  have HT0 : Hid (FrT TS w (w.alloc (.cells #[vi 21, vi a, vi b, dv] 48))) := .of0 ((Fr.refl _ _).alloc _)
  clear h
  obtain ⟨kv, pv, lv, qs, hv⟩ := HS0.out
  have c9 : (w.alloc (.cells #[vi 21, vi a, vi b, dv] 48)).cell? ⟨sb, 9, none⟩ = some (.bool s.bad) := hv.cell 9
  have f9 := hv.free 9
  obtain ⟨ka, kc, rfl⟩ := own_slice hv.own
  have c5 : (w.alloc (.cells #[vi 21, vi a, vi b, dv] 48)).cell? ⟨sb, 5, none⟩ = some (.slice ka s.stack.length kc) := hv.cell 5
  have HV := Lib.hid hv
  clear hv
  go_enter Try.func75, Try.ntmps75
  go_wp2_with fail
  refine bodyPost_ret (results_none rfl _ _ _) rfl ?_
  exact ⟨rfl, HV.out.bad.1, HT0.out.trans HV.out.bad.2⟩

set_option maxRecDepth 100000 in
set_option maxHeartbeats 2000000 in
theorem operate_21 (W0 : World) (x : LWorld) (rv mv : Value) (sb : Nat) (w : World) (s : LSt) (a b : Int) (dv : Value) (h : StR W0 x rv mv sb w s) (hl : s.stack.length ≤ 999990) (hk : ¬ (s.stack.length : Int) ≤ a) (h0 : 0 ≤ a) :
    Calls Try.prog 75 #[.pointer (some ⟨sb, 0, none⟩), .agg #[vi 21, vi a, vi b, dv]] w fun e w' => e = .returned (.tuple #[]) ∧ StP W0 x rv mv sb w (pushS (s.stack.getD ((s.stack.length : Int) - 1 - a).toNat 0) s) w' := by
  have HS0 : Hid (StR W0 x rv mv sb (w.alloc (.cells #[vi 21, vi a, vi b, dv] 48)) s) := h.call ((Fr.refl _ _).alloc _)
  have HB0 : Hid ((w.alloc (.cells #[vi 21, vi a, vi b, dv] 48)).heap[w.heap.size]? = some (.cells #[vi 21, vi a, vi b, dv] 48 (0, 0))) := blk_new _ _
  have HT0 : Hid (FrT TS w (w.alloc (.cells #[vi 21, vi a, vi b, dv] 48))) := .of0 ((Fr.refl _ _).alloc _)
  clear h
  obtain ⟨kv, pv, lv, qs, hv⟩ := HS0.out
  obtain ⟨g, kc, rfl, h1, h2, hc⟩ := own_vis hv.own (by omega)
  have c5 : (w.alloc (.cells #[vi 21, vi a, vi b, dv] 48)).cell? ⟨sb, 5, none⟩ = some (.slice (some ⟨g, 0, none⟩) s.stack.length kc) := hv.cell 5
  obtain ⟨m, hm⟩ : ∃ m : Nat, (s.stack.length : Int) - 1 - a = m := ⟨((s.stack.length : Int) - 1 - a).toNat, by omega⟩
  have hm2 : m < s.stack.length := by omega
  have cx := hc m hm2
  have eg : s.stack.getD ((s.stack.length : Int) - 1 - a).toNat 0 = s.stack[m] := by rw [hm]; simp [hm2]
  rw [eg]
  unfold maxLen at h2
  have e1 : IntKind.i64.wrap ((s.stack.length : Int) - 1) = (s.stack.length : Int) - 1 := IntWalk.i64_in _ (by omega)
  have e2 : IntKind.i64.wrap ((s.stack.length : Int) - 1 - a) = m := by rw [hm]; exact IntWalk.i64_in _ (by omega)
  have e3 : (0 : Int) ≤ (m : Int) := by omega
  have e4 : (m : Int) < (s.stack.length : Int) := by omega
  have e5 : ¬ (s.stack.length : Int) ≤ a := hk
  generalize s.stack[m] = y at *
  clear hv hc eg hm
  go_enter Try.func75, Try.ntmps75
  go_wp2_with fail
  go_region_law ((go_simp; go_at_call 71; go_must (refine (push_any W0 x rv mv sb _ s _ (HS0.out.call (by first | exact (Fr.refl _ _).drew | exact Fr.refl _ _)) (by omega)).mono ?_); rintro e w1 ⟨rfl, hs1, hf1⟩; have HS1 := Lib.hid hs1; have HT1 := Lib.hid (HT0.out.drew.trans hf1); clear hs1 hf1))
  all_goals
    go_wp2_with fail
    go_end0
    exact ⟨rfl, HS1.out, HT1.out⟩

set_option maxRecDepth 100000 in
set_option maxHeartbeats 2000000 in
theorem operate_148l (W0 : World) (x : LWorld) (rv mv : Value) (sb : Nat) (w : World) (s : LSt) (a b : Int) (dv : Value) (h : StR W0 x rv mv sb w s) (hl : s.stack.length ≤ 999990) (h2 : ¬ a = 2) (h4 : ¬ a = 4) (h8 : ¬ a = 8) :
    Calls Try.prog 75 #[.pointer (some ⟨sb, 0, none⟩), .agg #[vi 148, vi a, vi b, dv]] w fun e w' => e = .returned (.tuple #[]) ∧ StP W0 x rv mv sb w (s.mkLeft) w' := by
  have HS0 : Hid (StR W0 x rv mv sb (w.alloc (.cells #[vi 148, vi a, vi b, dv] 48)) s) := h.call ((Fr.refl _ _).alloc _)
  have HB0 : Hid ((w.alloc (.cells #[vi 148, vi a, vi b, dv] 48)).heap[w.heap.size]? = some (.cells #[vi 148, vi a, vi b, dv] 48 (0, 0))) := blk_new _ _
  have HT0 : Hid (FrT TS w (w.alloc (.cells #[vi 148, vi a, vi b, dv] 48))) := .of0 ((Fr.refl _ _).alloc _)
  clear h
  have q2 : (a != 2) = true := by simpa using h2
  have q4 : (a != 4) = true := by simpa using h4
  have q8 : (a != 8) = true := by simpa using h8
  obtain ⟨kv, pv, lv, qs, hv⟩ := HS0.out
  have c8 : (w.alloc (.cells #[vi 148, vi a, vi b, dv] 48)).cell? ⟨sb, 8, none⟩ = some (.bool s.left) := hv.cell 8
  have f8 := hv.free 8
  have HV := Lib.hid hv
  clear hv
  go_enter Try.func75, Try.ntmps75
  go_wp2_with fail
  refine bodyPost_ret (results_none rfl _ _ _) rfl ?_
  exact ⟨rfl, HV.out.left.1, HT0.out.trans HV.out.left.2⟩

set_option maxRecDepth 100000 in
set_option maxHeartbeats 2000000 in
theorem operate_148_2 (W0 : World) (x : LWorld) (rv mv : Value) (sb : Nat) (w : World) (s : LSt) (b : Int) (dv : Value) (h : StR W0 x rv mv sb w s) (hl : s.stack.length ≤ 999990) :
    Calls Try.prog 75 #[.pointer (some ⟨sb, 0, none⟩), .agg #[vi 148, vi 2, vi b, dv]] w fun e w' => e = .returned (.tuple #[]) ∧ StP W0 x rv mv sb w (pushS (loadS x (u64of (popS s).1) 2 (popS s).2).1 (loadS x (u64of (popS s).1) 2 (popS s).2).2) w' := by
  have HS0 : Hid (StR W0 x rv mv sb (w.alloc (.cells #[vi 148, vi 2, vi b, dv] 48)) s) := h.call ((Fr.refl _ _).alloc _)
  have HB0 : Hid ((w.alloc (.cells #[vi 148, vi 2, vi b, dv] 48)).heap[w.heap.size]? = some (.cells #[vi 148, vi 2, vi b, dv] 48 (0, 0))) := blk_new _ _
  have HT0 : Hid (FrT TS w (w.alloc (.cells #[vi 148, vi 2, vi b, dv] 48))) := .of0 ((Fr.refl _ _).alloc _)
  clear h
  have hu1 : IntKind.u64.wrap (popS s).1 = ((u64of (popS s).1 : Nat) : Int) := by rw [IntKind.wrap_u64]; exact u64of_cast _
  have U := u64of_lt (popS s).1
  have c1 : (w.alloc (.cells #[vi 148, vi 2, vi b, dv] 48)).cell? ⟨w.heap.size, 1, none⟩ = some (vi 2) := blk_cell HB0.out 1
  go_enter Try.func75, Try.ntmps75
  go_wp2_with fail
  go_region_held3 (fun w' => w'.cell? ⟨w.heap.size, 1, none⟩ = some (vi 2))
    (first | exact blk_cell HB3.out 1 | exact blk_cell HB2.out 1 | exact blk_cell HB1.out 1 | exact c1)
    (first
      | (have _t := HS2; go_at_call 71; go_must (refine (push_any W0 x rv mv sb _ _ _ HS2.out (by rw [loadS_len]; have := popS_len s; omega)).mono ?_); rintro e w3 ⟨rfl, hs1, hf1⟩; have HS3 := Lib.hid hs1; have HT3 := Lib.hid (HT2.out.trans hf1); have HB3 := Lib.hid (hf1.get HB2.out (by decide)); clear hs1 hf1)
      | (have _t := HS1; go_at_call 86; go_must (refine (load_any W0 x rv mv sb _ _ _ 2 HS1.out U (by decide)).mono ?_); rintro e w2 ⟨rfl, hs1, hf1⟩; have HS2 := Lib.hid hs1; have HT2 := Lib.hid (HT1.out.trans hf1); have HB2 := Lib.hid (hf1.get HB1.out (by decide)); clear hs1 hf1)
      | (go_at_call 70; go_must (refine (pop_any W0 x rv mv sb _ _ (HS0.out.call (by first | exact (Fr.refl _ _).drew | exact Fr.refl _ _))).mono ?_); rintro e w1 ⟨rfl, hs1, hf1⟩; have HS1 := Lib.hid hs1; have HT1 := Lib.hid (HT0.out.drew.trans hf1); have HB1 := Lib.hid (hf1.get HB0.out (by decide)); clear hs1 hf1))
  all_goals
    go_wp2_with fail
    go_end0
    exact ⟨rfl, HS3.out, HT3.out⟩

set_option maxRecDepth 100000 in
set_option maxHeartbeats 2000000 in
theorem operate_148_4 (W0 : World) (x : LWorld) (rv mv : Value) (sb : Nat) (w : World) (s : LSt) (b : Int) (dv : Value) (h : StR W0 x rv mv sb w s) (hl : s.stack.length ≤ 999990) :
    Calls Try.prog 75 #[.pointer (some ⟨sb, 0, none⟩), .agg #[vi 148, vi 4, vi b, dv]] w fun e w' => e = .returned (.tuple #[]) ∧ StP W0 x rv mv sb w (pushS (loadS x (u64of (popS s).1) 4 (popS s).2).1 (loadS x (u64of (popS s).1) 4 (popS s).2).2) w' := by
  have HS0 : Hid (StR W0 x rv mv sb (w.alloc (.cells #[vi 148, vi 4, vi b, dv] 48)) s) := h.call ((Fr.refl _ _).alloc _)
  have HB0 : Hid ((w.alloc (.cells #[vi 148, vi 4, vi b, dv] 48)).heap[w.heap.size]? = some (.cells #[vi 148, vi 4, vi b, dv] 48 (0, 0))) := blk_new _ _
  have HT0 : Hid (FrT TS w (w.alloc (.cells #[vi 148, vi 4, vi b, dv] 48))) := .of0 ((Fr.refl _ _).alloc _)
  clear h
  have hu1 : IntKind.u64.wrap (popS s).1 = ((u64of (popS s).1 : Nat) : Int) := by rw [IntKind.wrap_u64]; exact u64of_cast _
  have U := u64of_lt (popS s).1
  have c1 : (w.alloc (.cells #[vi 148, vi 4, vi b, dv] 48)).cell? ⟨w.heap.size, 1, none⟩ = some (vi 4) := blk_cell HB0.out 1
  go_enter Try.func75, Try.ntmps75
  go_wp2_with fail
  go_region_held3 (fun w' => w'.cell? ⟨w.heap.size, 1, none⟩ = some (vi 4))
    (first | exact blk_cell HB3.out 1 | exact blk_cell HB2.out 1 | exact blk_cell HB1.out 1 | exact c1)
    (first
      | (have _t := HS2; go_at_call 71; go_must (refine (push_any W0 x rv mv sb _ _ _ HS2.out (by rw [loadS_len]; have := popS_len s; omega)).mono ?_); rintro e w3 ⟨rfl, hs1, hf1⟩; have HS3 := Lib.hid hs1; have HT3 := Lib.hid (HT2.out.trans hf1); have HB3 := Lib.hid (hf1.get HB2.out (by decide)); clear hs1 hf1)
      | (have _t := HS1; go_at_call 86; go_must (refine (load_any W0 x rv mv sb _ _ _ 4 HS1.out U (by decide)).mono ?_); rintro e w2 ⟨rfl, hs1, hf1⟩; have HS2 := Lib.hid hs1; have HT2 := Lib.hid (HT1.out.trans hf1); have HB2 := Lib.hid (hf1.get HB1.out (by decide)); clear hs1 hf1)
      | (go_at_call 70; go_must (refine (pop_any W0 x rv mv sb _ _ (HS0.out.call (by first | exact (Fr.refl _ _).drew | exact Fr.refl _ _))).mono ?_); rintro e w1 ⟨rfl, hs1, hf1⟩; have HS1 := Lib.hid hs1; have HT1 := Lib.hid (HT0.out.drew.trans hf1); have HB1 := Lib.hid (hf1.get HB0.out (by decide)); clear hs1 hf1))
  all_goals
    go_wp2_with fail
    go_end0
    exact ⟨rfl, HS3.out, HT3.out⟩

set_option maxRecDepth 100000 in
set_option maxHeartbeats 2000000 in
theorem operate_148_8 (W0 : World) (x : LWorld) (rv mv : Value) (sb : Nat) (w : World) (s : LSt) (b : Int) (dv : Value) (h : StR W0 x rv mv sb w s) (hl : s.stack.length ≤ 999990) :
    Calls Try.prog 75 #[.pointer (some ⟨sb, 0, none⟩), .agg #[vi 148, vi 8, vi b, dv]] w fun e w' => e = .returned (.tuple #[]) ∧ StP W0 x rv mv sb w (pushS (loadS x (u64of (popS s).1) 8 (popS s).2).1 (loadS x (u64of (popS s).1) 8 (popS s).2).2) w' := by
  have HS0 : Hid (StR W0 x rv mv sb (w.alloc (.cells #[vi 148, vi 8, vi b, dv] 48)) s) := h.call ((Fr.refl _ _).alloc _)
  have HB0 : Hid ((w.alloc (.cells #[vi 148, vi 8, vi b, dv] 48)).heap[w.heap.size]? = some (.cells #[vi 148, vi 8, vi b, dv] 48 (0, 0))) := blk_new _ _
  have HT0 : Hid (FrT TS w (w.alloc (.cells #[vi 148, vi 8, vi b, dv] 48))) := .of0 ((Fr.refl _ _).alloc _)
  clear h
  have hu1 : IntKind.u64.wrap (popS s).1 = ((u64of (popS s).1 : Nat) : Int) := by rw [IntKind.wrap_u64]; exact u64of_cast _
  have U := u64of_lt (popS s).1
  have c1 : (w.alloc (.cells #[vi 148, vi 8, vi b, dv] 48)).cell? ⟨w.heap.size, 1, none⟩ = some (vi 8) := blk_cell HB0.out 1
  go_enter Try.func75, Try.ntmps75
  go_wp2_with fail
  go_region_held3 (fun w' => w'.cell? ⟨w.heap.size, 1, none⟩ = some (vi 8))
    (first | exact blk_cell HB3.out 1 | exact blk_cell HB2.out 1 | exact blk_cell HB1.out 1 | exact c1)
    (first
      | (have _t := HS2; go_at_call 71; go_must (refine (push_any W0 x rv mv sb _ _ _ HS2.out (by rw [loadS_len]; have := popS_len s; omega)).mono ?_); rintro e w3 ⟨rfl, hs1, hf1⟩; have HS3 := Lib.hid hs1; have HT3 := Lib.hid (HT2.out.trans hf1); have HB3 := Lib.hid (hf1.get HB2.out (by decide)); clear hs1 hf1)
      | (have _t := HS1; go_at_call 86; go_must (refine (load_any W0 x rv mv sb _ _ _ 8 HS1.out U (by decide)).mono ?_); rintro e w2 ⟨rfl, hs1, hf1⟩; have HS2 := Lib.hid hs1; have HT2 := Lib.hid (HT1.out.trans hf1); have HB2 := Lib.hid (hf1.get HB1.out (by decide)); clear hs1 hf1)
      | (go_at_call 70; go_must (refine (pop_any W0 x rv mv sb _ _ (HS0.out.call (by first | exact (Fr.refl _ _).drew | exact Fr.refl _ _))).mono ?_); rintro e w1 ⟨rfl, hs1, hf1⟩; have HS1 := Lib.hid hs1; have HT1 := Lib.hid (HT0.out.drew.trans hf1); have HB1 := Lib.hid (hf1.get HB0.out (by decide)); clear hs1 hf1))
  all_goals
    go_wp2_with fail
    go_end0
    exact ⟨rfl, HS3.out, HT3.out⟩

set_option maxRecDepth 100000 in
set_option maxHeartbeats 2000000 in
theorem operate_35 (W0 : World) (x : LWorld) (rv mv : Value) (sb : Nat) (w : World) (s : LSt) (a b : Int) (dv : Value) (h : StR W0 x rv mv sb w s) (hl : s.stack.length ≤ 999990) :
    Calls Try.prog 75 #[.pointer (some ⟨sb, 0, none⟩), .agg #[vi 35, vi a, vi b, dv]] w fun e w' => e = .returned (.tuple #[]) ∧ StP W0 x rv mv sb w (pushS (wrap64 ((popS s).1 + a)) (popS s).2) w' := by
  have HS0 : Hid (StR W0 x rv mv sb (w.alloc (.cells #[vi 35, vi a, vi b, dv] 48)) s) := h.call ((Fr.refl _ _).alloc _)
  have HB0 : Hid ((w.alloc (.cells #[vi 35, vi a, vi b, dv] 48)).heap[w.heap.size]? = some (.cells #[vi 35, vi a, vi b, dv] 48 (0, 0))) := blk_new _ _
  have HT0 : Hid (FrT TS w (w.alloc (.cells #[vi 35, vi a, vi b, dv] 48))) := .of0 ((Fr.refl _ _).alloc _)
  clear h
  have c1 : (w.alloc (.cells #[vi 35, vi a, vi b, dv] 48)).cell? ⟨w.heap.size, 1, none⟩ = some (vi a) := blk_cell HB0.out 1
  have hw1 : ∀ n, IntKind.i64.wrap n = wrap64 n := IntWalk.i64_left
  go_enter Try.func75, Try.ntmps75
  go_wp2_with fail
  go_region_held3 (fun w' => w'.cell? ⟨w.heap.size, 1, none⟩ = some (vi a))
    (first | exact blk_cell HB2.out 1 | exact blk_cell HB1.out 1 | exact c1)
    (first
      | (have _t := HS1; go_at_call 71; go_must (refine (push_any W0 x rv mv sb _ _ _ HS1.out (by have := popS_len s; omega)).mono ?_); rintro e w2 ⟨rfl, hs1, hf1⟩; have HS2 := Lib.hid hs1; have HT2 := Lib.hid (HT1.out.trans hf1); have HB2 := Lib.hid (hf1.get HB1.out (by decide)); clear hs1 hf1)
      | (go_at_call 70; go_must (refine (pop_any W0 x rv mv sb _ _ (HS0.out.call (by first | exact (Fr.refl _ _).drew | exact Fr.refl _ _))).mono ?_); rintro e w1 ⟨rfl, hs1, hf1⟩; have HS1 := Lib.hid hs1; have HT1 := Lib.hid (HT0.out.drew.trans hf1); have HB1 := Lib.hid (hf1.get HB0.out (by decide)); clear hs1 hf1))
  all_goals
    go_wp2_with fail
    go_end0
    exact ⟨rfl, by first | exact HS2.out | (rw [← hw1]; exact HS2.out), HT2.out⟩

set_option maxRecDepth 100000 in
set_option maxHeartbeats 2000000 in
theorem operate_two (W0 : World) (x : LWorld) (rv mv : Value) (sb : Nat) (w : World) (s : LSt) (op a b : Int) (dv : Value) (h : StR W0 x rv mv sb w s) (hl : s.stack.length ≤ 999990) (ho : op ∈ [(26 : Int), 33, 39, 34, 28, 30, 27, 29, 36, 37, 38, 41, 46, 42, 43, 44, 45, 40]) (q18 : (op == 18) = false) (q19 : (op == 19) = false) (q20 : (op == 20) = false) (q21 : (op == 21) = false) (q22 : (op == 22) = false) (q23 : (op == 23) = false) (q6 : (op == 6) = false) (q148 : (op == 148) = false) (q25 : (op == 25) = false) (q31 : (op == 31) = false) (q32 : (op == 32) = false) (q35 : (op == 35) = false) :
    Calls Try.prog 75 #[.pointer (some ⟨sb, 0, none⟩), .agg #[vi op, vi a, vi b, dv]] w fun e w' => e = .returned (.tuple #[]) ∧ StP W0 x rv mv sb w (twoS op (popS (popS s).2).1 (popS s).1 (popS (popS s).2).2) w' := by
  have HS0 : Hid (StR W0 x rv mv sb (w.alloc (.cells #[vi op, vi a, vi b, dv] 48)) s) := h.call ((Fr.refl _ _).alloc _)
  have HB0 : Hid ((w.alloc (.cells #[vi op, vi a, vi b, dv] 48)).heap[w.heap.size]? = some (.cells #[vi op, vi a, vi b, dv] 48 (0, 0))) := blk_new _ _
  have HT0 : Hid (FrT TS w (w.alloc (.cells #[vi op, vi a, vi b, dv] 48))) := .of0 ((Fr.refl _ _).alloc _)
  clear h
  have Ho := Lib.hid ho
  clear ho
  go_enter Try.func75, Try.ntmps75
  go_wp2_with fail
  refine (pop_any W0 x rv mv sb _ _ HS0.out).mono ?_
  rintro e w1 ⟨rfl, hs1, hf1⟩
  have HS1 := Lib.hid hs1
  have HT1 := Lib.hid (HT0.out.trans hf1)
  have HB1 := Lib.hid (hf1.get HB0.out (by decide))
  clear hs1 hf1
  go_wp2_with fail
  refine (pop_any W0 x rv mv sb _ _ HS1.out).mono ?_
  rintro e w2 ⟨rfl, hs1, hf1⟩
  have HS2 := Lib.hid hs1
  have HT2 := Lib.hid (HT1.out.trans hf1)
  have HB2 := Lib.hid (hf1.get HB1.out (by decide))
  clear hs1 hf1
  have c0 : w2.cell? ⟨w.heap.size, 0, none⟩ = some (vi op) := blk_cell HB2.out 0
  go_wp2_with fail
  refine (two_any W0 x rv mv sb _ _ _ _ _ HS2.out (by have := popS_len s; have := popS_len (popS s).2; (try simp only [pushS_len]); omega) Ho.out).mono ?_
  rintro e w3 ⟨rfl, hs1, hf1⟩
  have HS3 := Lib.hid hs1
  have HT3 := Lib.hid (HT2.out.trans hf1)
  have HB3 := Lib.hid (hf1.get HB2.out (by decide))
  clear hs1 hf1
  go_wp2_with fail
  go_end0
  exact ⟨rfl, HS3.out, HT3.out⟩

/-- What operate is called with. -/
def opKnown (op : Int) : Prop := op ∈ [(18 : Int), 19, 20, 21, 22, 23, 6, 148, 25, 31, 32, 35, 26, 33, 39, 34, 28, 30, 27, 29, 36, 37, 38, 41, 46, 42, 43, 44, 45, 40]
theorem operate_any (W0 : World) (x : LWorld) (rv mv : Value) (sb : Nat) (w : World) (s : LSt) (c : LCall) (dv : Value) (h : StR W0 x rv mv sb w s) (hl : s.stack.length ≤ 999990) (ho : opKnown c.op) (hp : c.op = 21 → 0 ≤ c.a) :
    Calls Try.prog 75 #[.pointer (some ⟨sb, 0, none⟩), opV c dv] w fun e w' => e = .returned (.tuple #[]) ∧ StP W0 x rv mv sb w (operateS x c s) w' := by
  obtain ⟨op, a, b, data⟩ := c
  show Calls Try.prog 75 #[.pointer (some ⟨sb, 0, none⟩), .agg #[vi op, vi a, vi b, dv]] w fun e w' => _
  simp only at ho hp
  by_cases ht : op ∈ [(26 : Int), 33, 39, 34, 28, 30, 27, 29, 36, 37, 38, 41, 46, 42, 43, 44, 45, 40]
  · have e : operateS x ⟨op, a, b, data⟩ s = twoS op (popS (popS s).2).1 (popS s).1 (popS (popS s).2).2 := by
      simp only [List.mem_cons, List.not_mem_nil, or_false] at ht
      rcases ht with rfl | rfl | rfl | rfl | rfl | rfl | rfl | rfl | rfl | rfl | rfl | rfl | rfl | rfl | rfl | rfl | rfl | rfl <;> simp [operateS]
    rw [e]
    refine operate_two W0 x rv mv sb w s op a b dv h hl ht ?_ ?_ ?_ ?_ ?_ ?_ ?_ ?_ ?_ ?_ ?_ ?_
    all_goals
      simp only [List.mem_cons, List.not_mem_nil, or_false] at ht
      rcases ht with rfl | rfl | rfl | rfl | rfl | rfl | rfl | rfl | rfl | rfl | rfl | rfl | rfl | rfl | rfl | rfl | rfl | rfl <;> decide
  · have ho2 : op = 18 ∨ op = 19 ∨ op = 20 ∨ op = 21 ∨ op = 22 ∨ op = 23 ∨ op = 6 ∨ op = 148 ∨ op = 25 ∨ op = 31 ∨ op = 32 ∨ op = 35 := by
      simp only [opKnown, List.mem_cons, List.not_mem_nil, or_false] at ho ht
      omega
    clear ho ht
    rcases ho2 with rfl | rfl | rfl | rfl | rfl | rfl | rfl | rfl | rfl | rfl | rfl | rfl
    · exact operate_18 W0 x rv mv sb w s a b dv h hl
    · exact operate_19 W0 x rv mv sb w s a b dv h hl
    · by_cases hk : (s.stack.length : Int) ≤ 1
      · have e : operateS x ⟨20, a, b, data⟩ s = s.mkBad := by simp [operateS, hk]
        rw [e]; exact operate_20b W0 x rv mv sb w s a b dv h hl hk
      · have e : operateS x ⟨20, a, b, data⟩ s = pushS (s.stack.getD ((s.stack.length : Int) - 1 - 1).toNat 0) s := by simp [operateS, hk]
        rw [e]; exact operate_20 W0 x rv mv sb w s a b dv h hl hk (by decide)
    · by_cases hk : (s.stack.length : Int) ≤ a
      · have e : operateS x ⟨21, a, b, data⟩ s = s.mkBad := by simp [operateS, hk]
        rw [e]; exact operate_21b W0 x rv mv sb w s a b dv h hl hk
      · have e : operateS x ⟨21, a, b, data⟩ s = pushS (s.stack.getD ((s.stack.length : Int) - 1 - a).toNat 0) s := by simp [operateS, hk]
        rw [e]; exact operate_21 W0 x rv mv sb w s a b dv h hl hk (hp rfl)
    · exact operate_22 W0 x rv mv sb w s a b dv h hl
    · exact operate_23 W0 x rv mv sb w s a b dv h hl
    · exact operate_6 W0 x rv mv sb w s a b dv h hl
    · by_cases h2 : a = 2
      · subst h2; exact operate_148_2 W0 x rv mv sb w s b dv h hl
      by_cases h4 : a = 4
      · subst h4; exact operate_148_4 W0 x rv mv sb w s b dv h hl
      by_cases h8 : a = 8
      · subst h8; exact operate_148_8 W0 x rv mv sb w s b dv h hl
      · have e : operateS x ⟨148, a, b, data⟩ s = s.mkLeft := by simp [operateS, h2, h4, h8]
        rw [e]; exact operate_148l W0 x rv mv sb w s a b dv h hl h2 h4 h8
    · by_cases hv : (popS s).1 < 0
      · have e : operateS x ⟨25, a, b, data⟩ s = pushS (wrap64 (-(popS s).1)) (popS s).2 := by simp [operateS, hv]
        rw [e]; exact operate_25a W0 x rv mv sb w s a b dv h hl hv
      · have e : operateS x ⟨25, a, b, data⟩ s = pushS (popS s).1 (popS s).2 := by simp [operateS, hv]
        rw [e]; exact operate_25b W0 x rv mv sb w s a b dv h hl hv
    · exact operate_31 W0 x rv mv sb w s a b dv h hl
    · exact operate_32 W0 x rv mv sb w s a b dv h hl
    · exact operate_35 W0 x rv mv sb w s a b dv h hl
end Go.Proofs.Ytahohmdfllgedaa
