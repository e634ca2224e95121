/- The reference's evaluation: do. Printed by gen_edo.py.
The reference's evaluation: do, as a whole.
The reference's evaluation: how long the stack may grow; Evaluate. -/
import Derived.Test.YtahohmdfllgedaaCa5
import Derived.Test.YtahohmdfllgedaaCa7
import Derived.Deep.CutBlock
set_option linter.unusedVariables false
set_option linter.unusedSimpArgs false
namespace Go.Proofs.Ytahohmdfllgedaa
open Go.RowKit

theorem loc_none {W0 w : World} {x : LWorld} {rv mv : Value} {sb : Nat} {s : LSt} (h : StR W0 x rv mv sb w s) (hl : s.loc = none) : w.cell? ⟨sb, 7, none⟩ = some (.pointer none) := by
  obtain ⟨kv, pv, lv, qs, hv⟩ := h
  have hloc := hv.loc
  rw [hl] at hloc
  cases hloc
  exact hv.cell 7
theorem loc_some {W0 w : World} {x : LWorld} {rv mv : Value} {sb : Nat} {s : LSt} (h : StR W0 x rv mv sb w s) (hl : s.loc.isSome = true) : ∃ g, w.cell? ⟨sb, 7, none⟩ = some (.pointer (some ⟨g, 0, none⟩)) := by
  obtain ⟨kv, pv, lv, qs, hv⟩ := h
  have hloc := hv.loc
  obtain ⟨p, hp⟩ := Option.isSome_iff_exists.1 hl
  rw [hp] at hloc
  cases hloc with
  | some g bv p' h1 h2 h3 => exact ⟨g, hv.cell 7⟩
theorem PB.nil (W0 w : World) : PB W0 w (.slice none 0 0) [] := .inl (.inl ⟨rfl, rfl⟩)

set_option maxRecDepth 100000 in
set_option maxHeartbeats 2000000 in
theorem do_left (W0 : World) (x : LWorld) (rv mv : Value) (sb : Nat) (w : World) (s : LSt) (op a b : Int) (dv : Value) (h : StR W0 x rv mv sb w s) (hl : s.stack.length ≤ 999990) (hs : s.loc.isSome = true) (q147 : (op == 147) = false) :
    Calls Try.prog 56 #[.pointer (some ⟨sb, 0, none⟩), .agg #[vi op, vi a, vi b, dv]] w fun e w' => e = .returned (.tuple #[]) ∧ StP W0 x rv mv sb w (s.mkLeft) w' := by
  have HS0 : Hid (StR W0 x rv mv sb (w.alloc (.cells #[vi op, vi a, vi b, dv] 48)) s) := h.call ((Fr.refl _ _).alloc _)
  have HB0 : Hid ((w.alloc (.cells #[vi op, vi a, vi b, dv] 48)).heap[w.heap.size]? = some (.cells #[vi op, vi a, vi b, dv] 48 (0, 0))) := blk_new _ _
  have HT0 : Hid (FrT TS w (w.alloc (.cells #[vi op, vi a, vi b, dv] 48))) := .of0 ((Fr.refl _ _).alloc _)
  obtain ⟨g, c7⟩ := loc_some HS0.out hs
  obtain ⟨kv, pv, lv, qs, hv⟩ := HS0.out
  have c8 : (w.alloc (.cells #[vi op, vi a, vi b, dv] 48)).cell? ⟨sb, 8, none⟩ = some (.bool s.left) := hv.cell 8
  have f8 := hv.free 8
  have q2 : (op != 147) = true := by simpa using q147
  have HV := Lib.hid hv
  clear hv hs h
  go_enter Try.func56, Try.ntmps56
  go_wp2_with fail
  refine bodyPost_ret (results_none rfl _ _ _) rfl ?_
  exact ⟨rfl, HV.out.left.1, HT0.out.trans HV.out.left.2⟩

set_option maxRecDepth 100000 in
set_option maxHeartbeats 2000000 in
theorem do_lit (W0 : World) (x : LWorld) (rv mv : Value) (sb : Nat) (w : World) (s : LSt) (op a b : Int) (dv : Value) (h : StR W0 x rv mv sb w s) (hloc : s.loc = none) (hl : s.stack.length ≤ 999990) (h1 : 48 ≤ op) (h2 : op < 80) :
    Calls Try.prog 56 #[.pointer (some ⟨sb, 0, none⟩), .agg #[vi op, vi a, vi b, dv]] w fun e w' => e = .returned (.tuple #[]) ∧ StP W0 x rv mv sb w (pushS (op - 48) s) w' := by
  have HS0 : Hid (StR W0 x rv mv sb (w.alloc (.cells #[vi op, vi a, vi b, dv] 48)) s) := h.call ((Fr.refl _ _).alloc _)
  have HB0 : Hid ((w.alloc (.cells #[vi op, vi a, vi b, dv] 48)).heap[w.heap.size]? = some (.cells #[vi op, vi a, vi b, dv] 48 (0, 0))) := blk_new _ _
  have HT0 : Hid (FrT TS w (w.alloc (.cells #[vi op, vi a, vi b, dv] 48))) := .of0 ((Fr.refl _ _).alloc _)
  have c7 : (w.alloc (.cells #[vi op, vi a, vi b, dv] 48)).cell? ⟨sb, 7, none⟩ = some (.pointer none) := loc_none HS0.out hloc
  clear h hloc
  go_enter Try.func56, Try.ntmps56
  go_wp2_with fail
  refine (push_any W0 x rv mv sb _ _ _ HS0.out (by omega)).mono ?_
  rintro e w1 ⟨rfl, hs1, hf1⟩
  have HS1 := Lib.hid hs1
  have HT1 := Lib.hid (HT0.out.trans hf1)
  have HB1 := Lib.hid (hf1.get HB0.out (by decide))
  clear hs1 hf1
  go_wp2_with fail
  go_end0
  exact ⟨rfl, HS1.out, HT1.out⟩

set_option maxRecDepth 100000 in
set_option maxHeartbeats 2000000 in
theorem do_reg (W0 : World) (x : LWorld) (rv mv : Value) (sb : Nat) (w : World) (s : LSt) (op a b : Int) (dv : Value) (h : StR W0 x rv mv sb w s) (hloc : s.loc = none) (hl : s.stack.length ≤ 999990) (h1 : 80 ≤ op) (h2 : op < 112) (h3 : ¬ op < 80) (h4 : 48 ≤ op) :
    Calls Try.prog 56 #[.pointer (some ⟨sb, 0, none⟩), .agg #[vi op, vi a, vi b, dv]] w fun e w' => e = .returned (.tuple #[]) ∧ StP W0 x rv mv sb w (placeS ⟨1, op - 80, 0, [], false⟩ s) w' := by
  have HS0 : Hid (StR W0 x rv mv sb (w.alloc (.cells #[vi op, vi a, vi b, dv] 48)) s) := h.call ((Fr.refl _ _).alloc _)
  have HB0 : Hid ((w.alloc (.cells #[vi op, vi a, vi b, dv] 48)).heap[w.heap.size]? = some (.cells #[vi op, vi a, vi b, dv] 48 (0, 0))) := blk_new _ _
  have HT0 : Hid (FrT TS w (w.alloc (.cells #[vi op, vi a, vi b, dv] 48))) := .of0 ((Fr.refl _ _).alloc _)
  have c7 : (w.alloc (.cells #[vi op, vi a, vi b, dv] 48)).cell? ⟨sb, 7, none⟩ = some (.pointer none) := loc_none HS0.out hloc
  clear h hloc
  go_enter Try.func56, Try.ntmps56
  go_wp2_with fail
  refine (place_any W0 x rv mv sb _ _ (⟨1, op - 80, 0, [], false⟩) (.slice none 0 0) HS0.out (PB.nil _ _)).mono ?_
  rintro e w1 ⟨rfl, hs1, hf1⟩
  have HS1 := Lib.hid hs1
  have HT1 := Lib.hid (HT0.out.trans hf1)
  have HB1 := Lib.hid (hf1.get HB0.out (by decide))
  clear hs1 hf1
  go_wp2_with fail
  go_end0
  exact ⟨rfl, HS1.out, HT1.out⟩

set_option maxRecDepth 100000 in
set_option maxHeartbeats 2000000 in
theorem do_144 (W0 : World) (x : LWorld) (rv mv : Value) (sb : Nat) (w : World) (s : LSt) (a b : Int) (dv : Value) (h : StR W0 x rv mv sb w s) (hloc : s.loc = none) (hl : s.stack.length ≤ 999990) :
    Calls Try.prog 56 #[.pointer (some ⟨sb, 0, none⟩), .agg #[vi 144, vi a, vi b, dv]] w fun e w' => e = .returned (.tuple #[]) ∧ StP W0 x rv mv sb w (placeS ⟨1, a, 0, [], false⟩ s) w' := by
  have HS0 : Hid (StR W0 x rv mv sb (w.alloc (.cells #[vi 144, vi a, vi b, dv] 48)) s) := h.call ((Fr.refl _ _).alloc _)
  have HB0 : Hid ((w.alloc (.cells #[vi 144, vi a, vi b, dv] 48)).heap[w.heap.size]? = some (.cells #[vi 144, vi a, vi b, dv] 48 (0, 0))) := blk_new _ _
  have HT0 : Hid (FrT TS w (w.alloc (.cells #[vi 144, vi a, vi b, dv] 48))) := .of0 ((Fr.refl _ _).alloc _)
  have c7 : (w.alloc (.cells #[vi 144, vi a, vi b, dv] 48)).cell? ⟨sb, 7, none⟩ = some (.pointer none) := loc_none HS0.out hloc
  clear h hloc
  go_enter Try.func56, Try.ntmps56
  go_wp2_with fail
  refine (place_any W0 x rv mv sb _ _ (⟨1, a, 0, [], false⟩) (.slice none 0 0) HS0.out (PB.nil _ _)).mono ?_
  rintro e w1 ⟨rfl, hs1, hf1⟩
  have HS1 := Lib.hid hs1
  have HT1 := Lib.hid (HT0.out.trans hf1)
  have HB1 := Lib.hid (hf1.get HB0.out (by decide))
  clear hs1 hf1
  go_wp2_with fail
  go_end0
  exact ⟨rfl, HS1.out, HT1.out⟩

set_option maxRecDepth 100000 in
set_option maxHeartbeats 2000000 in
theorem do_breg (W0 : World) (x : LWorld) (rv mv : Value) (sb : Nat) (w : World) (s : LSt) (op a b : Int) (dv : Value) (h : StR W0 x rv mv sb w s) (hloc : s.loc = none) (hl : s.stack.length ≤ 999990) (h1 : 112 ≤ op) (h2 : op < 144) (h3 : ¬ op < 80) (h4 : 48 ≤ op) (h5 : ¬ op < 112) (h6 : 80 ≤ op) :
    Calls Try.prog 56 #[.pointer (some ⟨sb, 0, none⟩), .agg #[vi op, vi a, vi b, dv]] w fun e w' => e = .returned (.tuple #[]) ∧ StP W0 x rv mv sb w (pushS (wrap64 ((registerS x (op - 112) s).1 + a)) (registerS x (op - 112) s).2) w' := by
  have HS0 : Hid (StR W0 x rv mv sb (w.alloc (.cells #[vi op, vi a, vi b, dv] 48)) s) := h.call ((Fr.refl _ _).alloc _)
  have HB0 : Hid ((w.alloc (.cells #[vi op, vi a, vi b, dv] 48)).heap[w.heap.size]? = some (.cells #[vi op, vi a, vi b, dv] 48 (0, 0))) := blk_new _ _
  have HT0 : Hid (FrT TS w (w.alloc (.cells #[vi op, vi a, vi b, dv] 48))) := .of0 ((Fr.refl _ _).alloc _)
  have c7 : (w.alloc (.cells #[vi op, vi a, vi b, dv] 48)).cell? ⟨sb, 7, none⟩ = some (.pointer none) := loc_none HS0.out hloc
  clear h hloc
  have c1 : (w.alloc (.cells #[vi op, vi a, vi b, dv] 48)).cell? ⟨w.heap.size, 1, none⟩ = some (vi a) := blk_cell HB0.out 1
  have c2 : (w.alloc (.cells #[vi op, vi a, vi b, dv] 48)).cell? ⟨w.heap.size, 2, none⟩ = some (vi b) := blk_cell HB0.out 2
  have hw1 : ∀ n, IntKind.i64.wrap n = wrap64 n := IntWalk.i64_left
  have HX := Lib.hid (IntWalk.wrap64_in (op - 112) (by omega))
  go_enter Try.func56, Try.ntmps56
  go_wp2_with fail
  go_region_held3 (fun w' => w'.cell? ⟨w.heap.size, 1, none⟩ = some (vi a) ∧ w'.cell? ⟨w.heap.size, 2, none⟩ = some (vi b))
    (first | exact ⟨blk_cell HB2.out 1, blk_cell HB2.out 2⟩ | exact ⟨blk_cell HB1.out 1, blk_cell HB1.out 2⟩ | exact ⟨c1, c2⟩)
    (first
      | (have _t := HS1; go_at_call 71; go_must (refine (push_any W0 x rv mv sb _ _ _ HS1.out (by rw [registerS_len]; omega)).mono ?_); rintro e w2 ⟨rfl, hs1, hf1⟩; have HS2 := Lib.hid hs1; have HT2 := Lib.hid (HT1.out.trans hf1); have HB2 := Lib.hid (hf1.get HB1.out (by decide)); clear hs1 hf1)
      | (go_at_call 73; go_must (refine (register_any W0 x rv mv sb _ s _ (HS0.out.call (by first | exact (Fr.refl _ _).drew | exact Fr.refl _ _))).mono ?_); rintro e w1 ⟨rfl, hs1, hf1⟩; have HS1 := Lib.hid hs1; have HT1 := Lib.hid (HT0.out.drew.trans hf1); have HB1 := Lib.hid (hf1.get HB0.out (by decide)); clear hs1 hf1))
  all_goals
    go_wp2_with fail
    go_end0
    exact ⟨rfl, by first | exact HS2.out | (rw [← hw1]; exact HS2.out) | (have hh := HS2.out; rw [HX.out] at hh; exact hh), HT2.out⟩

set_option maxRecDepth 100000 in
set_option maxHeartbeats 2000000 in
theorem do_146 (W0 : World) (x : LWorld) (rv mv : Value) (sb : Nat) (w : World) (s : LSt) (a b : Int) (dv : Value) (h : StR W0 x rv mv sb w s) (hloc : s.loc = none) (hl : s.stack.length ≤ 999990) :
    Calls Try.prog 56 #[.pointer (some ⟨sb, 0, none⟩), .agg #[vi 146, vi a, vi b, dv]] w fun e w' => e = .returned (.tuple #[]) ∧ StP W0 x rv mv sb w (pushS (wrap64 ((registerS x (a) s).1 + b)) (registerS x (a) s).2) w' := by
  have HS0 : Hid (StR W0 x rv mv sb (w.alloc (.cells #[vi 146, vi a, vi b, dv] 48)) s) := h.call ((Fr.refl _ _).alloc _)
  have HB0 : Hid ((w.alloc (.cells #[vi 146, vi a, vi b, dv] 48)).heap[w.heap.size]? = some (.cells #[vi 146, vi a, vi b, dv] 48 (0, 0))) := blk_new _ _
  have HT0 : Hid (FrT TS w (w.alloc (.cells #[vi 146, vi a, vi b, dv] 48))) := .of0 ((Fr.refl _ _).alloc _)
  have c7 : (w.alloc (.cells #[vi 146, vi a, vi b, dv] 48)).cell? ⟨sb, 7, none⟩ = some (.pointer none) := loc_none HS0.out hloc
  clear h hloc
  have c1 : (w.alloc (.cells #[vi 146, vi a, vi b, dv] 48)).cell? ⟨w.heap.size, 1, none⟩ = some (vi a) := blk_cell HB0.out 1
  have c2 : (w.alloc (.cells #[vi 146, vi a, vi b, dv] 48)).cell? ⟨w.heap.size, 2, none⟩ = some (vi b) := blk_cell HB0.out 2
  have hw1 : ∀ n, IntKind.i64.wrap n = wrap64 n := IntWalk.i64_left
  go_enter Try.func56, Try.ntmps56
  go_wp2_with fail
  go_region_held3 (fun w' => w'.cell? ⟨w.heap.size, 1, none⟩ = some (vi a) ∧ w'.cell? ⟨w.heap.size, 2, none⟩ = some (vi b))
    (first | exact ⟨blk_cell HB2.out 1, blk_cell HB2.out 2⟩ | exact ⟨blk_cell HB1.out 1, blk_cell HB1.out 2⟩ | exact ⟨c1, c2⟩)
    (first
      | (have _t := HS1; go_at_call 71; go_must (refine (push_any W0 x rv mv sb _ _ _ HS1.out (by rw [registerS_len]; omega)).mono ?_); rintro e w2 ⟨rfl, hs1, hf1⟩; have HS2 := Lib.hid hs1; have HT2 := Lib.hid (HT1.out.trans hf1); have HB2 := Lib.hid (hf1.get HB1.out (by decide)); clear hs1 hf1)
      | (go_at_call 73; go_must (refine (register_any W0 x rv mv sb _ s _ (HS0.out.call (by first | exact (Fr.refl _ _).drew | exact Fr.refl _ _))).mono ?_); rintro e w1 ⟨rfl, hs1, hf1⟩; have HS1 := Lib.hid hs1; have HT1 := Lib.hid (HT0.out.drew.trans hf1); have HB1 := Lib.hid (hf1.get HB0.out (by decide)); clear hs1 hf1))
  all_goals
    go_wp2_with fail
    go_end0
    exact ⟨rfl, by first | exact HS2.out | (rw [← hw1]; exact HS2.out) | (have hh := HS2.out; rw [HX.out] at hh; exact hh), HT2.out⟩

set_option maxRecDepth 100000 in
set_option maxHeartbeats 2000000 in
theorem do_145 (W0 : World) (x : LWorld) (rv mv : Value) (sb : Nat) (w : World) (s : LSt) (a b : Int) (dv : Value) (h : StR W0 x rv mv sb w s) (hloc : s.loc = none) (hl : s.stack.length ≤ 999990) :
    Calls Try.prog 56 #[.pointer (some ⟨sb, 0, none⟩), .agg #[vi 145, vi a, vi b, dv]] w fun e w' => e = .returned (.tuple #[]) ∧ StP W0 x rv mv sb w (pushS (wrap64 (x.base + a)) s) w' := by
  have HS0 : Hid (StR W0 x rv mv sb (w.alloc (.cells #[vi 145, vi a, vi b, dv] 48)) s) := h.call ((Fr.refl _ _).alloc _)
  have HB0 : Hid ((w.alloc (.cells #[vi 145, vi a, vi b, dv] 48)).heap[w.heap.size]? = some (.cells #[vi 145, vi a, vi b, dv] 48 (0, 0))) := blk_new _ _
  have HT0 : Hid (FrT TS w (w.alloc (.cells #[vi 145, vi a, vi b, dv] 48))) := .of0 ((Fr.refl _ _).alloc _)
  have c7 : (w.alloc (.cells #[vi 145, vi a, vi b, dv] 48)).cell? ⟨sb, 7, none⟩ = some (.pointer none) := loc_none HS0.out hloc
  clear h hloc
  have c1 : (w.alloc (.cells #[vi 145, vi a, vi b, dv] 48)).cell? ⟨w.heap.size, 1, none⟩ = some (vi a) := blk_cell HB0.out 1
  have cb : (w.alloc (.cells #[vi 145, vi a, vi b, dv] 48)).cell? ⟨sb, 1, none⟩ = some (vi x.base) := by obtain ⟨kv, pv, lv, qs, hv⟩ := HS0.out; exact hv.cell 1
  have hw1 : ∀ n, IntKind.i64.wrap n = wrap64 n := IntWalk.i64_left
  go_enter Try.func56, Try.ntmps56
  go_wp2_with fail
  go_region_law ((go_simp; go_at_call 71; go_must (refine (push_any W0 x rv mv sb _ s _ (HS0.out.call (by first | exact (Fr.refl _ _).drew | exact Fr.refl _ _)) (by omega)).mono ?_); rintro e w1 ⟨rfl, hs1, hf1⟩; have HS1 := Lib.hid hs1; have HT1 := Lib.hid (HT0.out.drew.trans hf1); clear hs1 hf1))
  all_goals
    go_wp2_with fail
    go_end0
    exact ⟨rfl, by first | exact HS1.out | (rw [← hw1]; exact HS1.out), HT1.out⟩

set_option maxRecDepth 100000 in
set_option maxHeartbeats 2000000 in
theorem do_156n (W0 : World) (x : LWorld) (rv mv : Value) (sb : Nat) (w : World) (s : LSt) (a b : Int) (dv : Value) (h : StR W0 x rv mv sb w s) (hloc : s.loc = none) (hl : s.stack.length ≤ 999990) (hc : (x.cfa == 0) = false) :
    Calls Try.prog 56 #[.pointer (some ⟨sb, 0, none⟩), .agg #[vi 156, vi a, vi b, dv]] w fun e w' => e = .returned (.tuple #[]) ∧ StP W0 x rv mv sb w (pushS x.cfa s) w' := by
  have HS0 : Hid (StR W0 x rv mv sb (w.alloc (.cells #[vi 156, vi a, vi b, dv] 48)) s) := h.call ((Fr.refl _ _).alloc _)
  have HB0 : Hid ((w.alloc (.cells #[vi 156, vi a, vi b, dv] 48)).heap[w.heap.size]? = some (.cells #[vi 156, vi a, vi b, dv] 48 (0, 0))) := blk_new _ _
  have HT0 : Hid (FrT TS w (w.alloc (.cells #[vi 156, vi a, vi b, dv] 48))) := .of0 ((Fr.refl _ _).alloc _)
  have c7 : (w.alloc (.cells #[vi 156, vi a, vi b, dv] 48)).cell? ⟨sb, 7, none⟩ = some (.pointer none) := loc_none HS0.out hloc
  clear h hloc
  have cb : (w.alloc (.cells #[vi 156, vi a, vi b, dv] 48)).cell? ⟨sb, 2, none⟩ = some (vi x.cfa) := by obtain ⟨kv, pv, lv, qs, hv⟩ := HS0.out; exact hv.cell 2
  go_enter Try.func56, Try.ntmps56
  go_wp2_with fail
  refine (push_any W0 x rv mv sb _ _ _ HS0.out (by omega)).mono ?_
  rintro e w1 ⟨rfl, hs1, hf1⟩
  have HS1 := Lib.hid hs1
  have HT1 := Lib.hid (HT0.out.trans hf1)
  have HB1 := Lib.hid (hf1.get HB0.out (by decide))
  clear hs1 hf1
  go_wp2_with fail
  go_end0
  exact ⟨rfl, HS1.out, HT1.out⟩

set_option maxRecDepth 100000 in
set_option maxHeartbeats 2000000 in
theorem do_156z (W0 : World) (x : LWorld) (rv mv : Value) (sb : Nat) (w : World) (s : LSt) (a b : Int) (dv : Value) (h : StR W0 x rv mv sb w s) (hloc : s.loc = none) (hl : s.stack.length ≤ 999990) (hc : (x.cfa == 0) = true) :
    Calls Try.prog 56 #[.pointer (some ⟨sb, 0, none⟩), .agg #[vi 156, vi a, vi b, dv]] w fun e w' => e = .returned (.tuple #[]) ∧ StP W0 x rv mv sb w (pushS x.cfa s.mkLeft) w' := by
  have HS0 : Hid (StR W0 x rv mv sb (w.alloc (.cells #[vi 156, vi a, vi b, dv] 48)) s) := h.call ((Fr.refl _ _).alloc _)
  have HB0 : Hid ((w.alloc (.cells #[vi 156, vi a, vi b, dv] 48)).heap[w.heap.size]? = some (.cells #[vi 156, vi a, vi b, dv] 48 (0, 0))) := blk_new _ _
  have HT0 : Hid (FrT TS w (w.alloc (.cells #[vi 156, vi a, vi b, dv] 48))) := .of0 ((Fr.refl _ _).alloc _)
  have c7 : (w.alloc (.cells #[vi 156, vi a, vi b, dv] 48)).cell? ⟨sb, 7, none⟩ = some (.pointer none) := loc_none HS0.out hloc
  clear h hloc
  have cb : (w.alloc (.cells #[vi 156, vi a, vi b, dv] 48)).cell? ⟨sb, 2, none⟩ = some (vi x.cfa) := by obtain ⟨kv, pv, lv, qs, hv⟩ := HS0.out; exact hv.cell 2
  obtain ⟨kv, pv, lv, qs, hv⟩ := HS0.out
  have c8 : (w.alloc (.cells #[vi 156, vi a, vi b, dv] 48)).cell? ⟨sb, 8, none⟩ = some (.bool s.left) := hv.cell 8
  have f8 := hv.free 8
  have HV := Lib.hid hv
  have HL : Hid (StR W0 x rv mv sb ((w.alloc (.cells #[vi 156, vi a, vi b, dv] 48)).setCell ⟨sb, 8, none⟩ (.bool true)) s.mkLeft) := hv.left.1
  have cb2 : ((w.alloc (.cells #[vi 156, vi a, vi b, dv] 48)).setCell ⟨sb, 8, none⟩ (.bool true)).cell? ⟨sb, 2, none⟩ = some (vi x.cfa) := by obtain ⟨kv, pv, lv, qs, hv2⟩ := HL.out; exact hv2.cell 2
  clear hv
  go_enter Try.func56, Try.ntmps56
  go_wp2_with fail
  refine (push_any W0 x rv mv sb _ _ _ HL.out (by show s.stack.length ≤ 1000000; omega)).mono ?_
  rintro e w1 ⟨rfl, hs1, hf1⟩
  have HS1 := Lib.hid hs1
  have HT1 := Lib.hid ((HT0.out.trans HV.out.left.2).trans hf1)
  clear hs1 hf1
  go_wp2_with fail
  go_end0
  exact ⟨rfl, HS1.out, HT1.out⟩

set_option maxRecDepth 100000 in
set_option maxHeartbeats 2000000 in
theorem do_3 (W0 : World) (x : LWorld) (rv mv : Value) (sb : Nat) (w : World) (s : LSt) (a b : Int) (dv : Value) (h : StR W0 x rv mv sb w s) (hloc : s.loc = none) (hl : s.stack.length ≤ 999990) :
    Calls Try.prog 56 #[.pointer (some ⟨sb, 0, none⟩), .agg #[vi 3, vi a, vi b, dv]] w fun e w' => e = .returned (.tuple #[]) ∧ StP W0 x rv mv sb w (pushS a s) w' := by
  have HS0 : Hid (StR W0 x rv mv sb (w.alloc (.cells #[vi 3, vi a, vi b, dv] 48)) s) := h.call ((Fr.refl _ _).alloc _)
  have HB0 : Hid ((w.alloc (.cells #[vi 3, vi a, vi b, dv] 48)).heap[w.heap.size]? = some (.cells #[vi 3, vi a, vi b, dv] 48 (0, 0))) := blk_new _ _
  have HT0 : Hid (FrT TS w (w.alloc (.cells #[vi 3, vi a, vi b, dv] 48))) := .of0 ((Fr.refl _ _).alloc _)
  have c7 : (w.alloc (.cells #[vi 3, vi a, vi b, dv] 48)).cell? ⟨sb, 7, none⟩ = some (.pointer none) := loc_none HS0.out hloc
  clear h hloc
  go_enter Try.func56, Try.ntmps56
  go_wp2_with fail
  refine (push_any W0 x rv mv sb _ _ _ HS0.out (by omega)).mono ?_
  rintro e w1 ⟨rfl, hs1, hf1⟩
  have HS1 := Lib.hid hs1
  have HT1 := Lib.hid (HT0.out.trans hf1)
  have HB1 := Lib.hid (hf1.get HB0.out (by decide))
  clear hs1 hf1
  go_wp2_with fail
  go_end0
  exact ⟨rfl, HS1.out, HT1.out⟩

set_option maxRecDepth 100000 in
set_option maxHeartbeats 2000000 in
theorem do_8 (W0 : World) (x : LWorld) (rv mv : Value) (sb : Nat) (w : World) (s : LSt) (a b : Int) (dv : Value) (h : StR W0 x rv mv sb w s) (hloc : s.loc = none) (hl : s.stack.length ≤ 999990) :
    Calls Try.prog 56 #[.pointer (some ⟨sb, 0, none⟩), .agg #[vi 8, vi a, vi b, dv]] w fun e w' => e = .returned (.tuple #[]) ∧ StP W0 x rv mv sb w (pushS a s) w' := by
  have HS0 : Hid (StR W0 x rv mv sb (w.alloc (.cells #[vi 8, vi a, vi b, dv] 48)) s) := h.call ((Fr.refl _ _).alloc _)
  have HB0 : Hid ((w.alloc (.cells #[vi 8, vi a, vi b, dv] 48)).heap[w.heap.size]? = some (.cells #[vi 8, vi a, vi b, dv] 48 (0, 0))) := blk_new _ _
  have HT0 : Hid (FrT TS w (w.alloc (.cells #[vi 8, vi a, vi b, dv] 48))) := .of0 ((Fr.refl _ _).alloc _)
  have c7 : (w.alloc (.cells #[vi 8, vi a, vi b, dv] 48)).cell? ⟨sb, 7, none⟩ = some (.pointer none) := loc_none HS0.out hloc
  clear h hloc
  go_enter Try.func56, Try.ntmps56
  go_wp2_with fail
  refine (push_any W0 x rv mv sb _ _ _ HS0.out (by omega)).mono ?_
  rintro e w1 ⟨rfl, hs1, hf1⟩
  have HS1 := Lib.hid hs1
  have HT1 := Lib.hid (HT0.out.trans hf1)
  have HB1 := Lib.hid (hf1.get HB0.out (by decide))
  clear hs1 hf1
  go_wp2_with fail
  go_end0
  exact ⟨rfl, HS1.out, HT1.out⟩

set_option maxRecDepth 100000 in
set_option maxHeartbeats 2000000 in
theorem do_9 (W0 : World) (x : LWorld) (rv mv : Value) (sb : Nat) (w : World) (s : LSt) (a b : Int) (dv : Value) (h : StR W0 x rv mv sb w s) (hloc : s.loc = none) (hl : s.stack.length ≤ 999990) :
    Calls Try.prog 56 #[.pointer (some ⟨sb, 0, none⟩), .agg #[vi 9, vi a, vi b, dv]] w fun e w' => e = .returned (.tuple #[]) ∧ StP W0 x rv mv sb w (pushS a s) w' := by
  have HS0 : Hid (StR W0 x rv mv sb (w.alloc (.cells #[vi 9, vi a, vi b, dv] 48)) s) := h.call ((Fr.refl _ _).alloc _)
  have HB0 : Hid ((w.alloc (.cells #[vi 9, vi a, vi b, dv] 48)).heap[w.heap.size]? = some (.cells #[vi 9, vi a, vi b, dv] 48 (0, 0))) := blk_new _ _
  have HT0 : Hid (FrT TS w (w.alloc (.cells #[vi 9, vi a, vi b, dv] 48))) := .of0 ((Fr.refl _ _).alloc _)
  have c7 : (w.alloc (.cells #[vi 9, vi a, vi b, dv] 48)).cell? ⟨sb, 7, none⟩ = some (.pointer none) := loc_none HS0.out hloc
  clear h hloc
  go_enter Try.func56, Try.ntmps56
  go_wp2_with fail
  refine (push_any W0 x rv mv sb _ _ _ HS0.out (by omega)).mono ?_
  rintro e w1 ⟨rfl, hs1, hf1⟩
  have HS1 := Lib.hid hs1
  have HT1 := Lib.hid (HT0.out.trans hf1)
  have HB1 := Lib.hid (hf1.get HB0.out (by decide))
  clear hs1 hf1
  go_wp2_with fail
  go_end0
  exact ⟨rfl, HS1.out, HT1.out⟩

set_option maxRecDepth 100000 in
set_option maxHeartbeats 2000000 in
theorem do_10 (W0 : World) (x : LWorld) (rv mv : Value) (sb : Nat) (w : World) (s : LSt) (a b : Int) (dv : Value) (h : StR W0 x rv mv sb w s) (hloc : s.loc = none) (hl : s.stack.length ≤ 999990) :
    Calls Try.prog 56 #[.pointer (some ⟨sb, 0, none⟩), .agg #[vi 10, vi a, vi b, dv]] w fun e w' => e = .returned (.tuple #[]) ∧ StP W0 x rv mv sb w (pushS a s) w' := by
  have HS0 : Hid (StR W0 x rv mv sb (w.alloc (.cells #[vi 10, vi a, vi b, dv] 48)) s) := h.call ((Fr.refl _ _).alloc _)
  have HB0 : Hid ((w.alloc (.cells #[vi 10, vi a, vi b, dv] 48)).heap[w.heap.size]? = some (.cells #[vi 10, vi a, vi b, dv] 48 (0, 0))) := blk_new _ _
  have HT0 : Hid (FrT TS w (w.alloc (.cells #[vi 10, vi a, vi b, dv] 48))) := .of0 ((Fr.refl _ _).alloc _)
  have c7 : (w.alloc (.cells #[vi 10, vi a, vi b, dv] 48)).cell? ⟨sb, 7, none⟩ = some (.pointer none) := loc_none HS0.out hloc
  clear h hloc
  go_enter Try.func56, Try.ntmps56
  go_wp2_with fail
  refine (push_any W0 x rv mv sb _ _ _ HS0.out (by omega)).mono ?_
  rintro e w1 ⟨rfl, hs1, hf1⟩
  have HS1 := Lib.hid hs1
  have HT1 := Lib.hid (HT0.out.trans hf1)
  have HB1 := Lib.hid (hf1.get HB0.out (by decide))
  clear hs1 hf1
  go_wp2_with fail
  go_end0
  exact ⟨rfl, HS1.out, HT1.out⟩

set_option maxRecDepth 100000 in
set_option maxHeartbeats 2000000 in
theorem do_11 (W0 : World) (x : LWorld) (rv mv : Value) (sb : Nat) (w : World) (s : LSt) (a b : Int) (dv : Value) (h : StR W0 x rv mv sb w s) (hloc : s.loc = none) (hl : s.stack.length ≤ 999990) :
    Calls Try.prog 56 #[.pointer (some ⟨sb, 0, none⟩), .agg #[vi 11, vi a, vi b, dv]] w fun e w' => e = .returned (.tuple #[]) ∧ StP W0 x rv mv sb w (pushS a s) w' := by
  have HS0 : Hid (StR W0 x rv mv sb (w.alloc (.cells #[vi 11, vi a, vi b, dv] 48)) s) := h.call ((Fr.refl _ _).alloc _)
  have HB0 : Hid ((w.alloc (.cells #[vi 11, vi a, vi b, dv] 48)).heap[w.heap.size]? = some (.cells #[vi 11, vi a, vi b, dv] 48 (0, 0))) := blk_new _ _
  have HT0 : Hid (FrT TS w (w.alloc (.cells #[vi 11, vi a, vi b, dv] 48))) := .of0 ((Fr.refl _ _).alloc _)
  have c7 : (w.alloc (.cells #[vi 11, vi a, vi b, dv] 48)).cell? ⟨sb, 7, none⟩ = some (.pointer none) := loc_none HS0.out hloc
  clear h hloc
  go_enter Try.func56, Try.ntmps56
  go_wp2_with fail
  refine (push_any W0 x rv mv sb _ _ _ HS0.out (by omega)).mono ?_
  rintro e w1 ⟨rfl, hs1, hf1⟩
  have HS1 := Lib.hid hs1
  have HT1 := Lib.hid (HT0.out.trans hf1)
  have HB1 := Lib.hid (hf1.get HB0.out (by decide))
  clear hs1 hf1
  go_wp2_with fail
  go_end0
  exact ⟨rfl, HS1.out, HT1.out⟩

set_option maxRecDepth 100000 in
set_option maxHeartbeats 2000000 in
theorem do_12 (W0 : World) (x : LWorld) (rv mv : Value) (sb : Nat) (w : World) (s : LSt) (a b : Int) (dv : Value) (h : StR W0 x rv mv sb w s) (hloc : s.loc = none) (hl : s.stack.length ≤ 999990) :
    Calls Try.prog 56 #[.pointer (some ⟨sb, 0, none⟩), .agg #[vi 12, vi a, vi b, dv]] w fun e w' => e = .returned (.tuple #[]) ∧ StP W0 x rv mv sb w (pushS a s) w' := by
  have HS0 : Hid (StR W0 x rv mv sb (w.alloc (.cells #[vi 12, vi a, vi b, dv] 48)) s) := h.call ((Fr.refl _ _).alloc _)
  have HB0 : Hid ((w.alloc (.cells #[vi 12, vi a, vi b, dv] 48)).heap[w.heap.size]? = some (.cells #[vi 12, vi a, vi b, dv] 48 (0, 0))) := blk_new _ _
  have HT0 : Hid (FrT TS w (w.alloc (.cells #[vi 12, vi a, vi b, dv] 48))) := .of0 ((Fr.refl _ _).alloc _)
  have c7 : (w.alloc (.cells #[vi 12, vi a, vi b, dv] 48)).cell? ⟨sb, 7, none⟩ = some (.pointer none) := loc_none HS0.out hloc
  clear h hloc
  go_enter Try.func56, Try.ntmps56
  go_wp2_with fail
  refine (push_any W0 x rv mv sb _ _ _ HS0.out (by omega)).mono ?_
  rintro e w1 ⟨rfl, hs1, hf1⟩
  have HS1 := Lib.hid hs1
  have HT1 := Lib.hid (HT0.out.trans hf1)
  have HB1 := Lib.hid (hf1.get HB0.out (by decide))
  clear hs1 hf1
  go_wp2_with fail
  go_end0
  exact ⟨rfl, HS1.out, HT1.out⟩

set_option maxRecDepth 100000 in
set_option maxHeartbeats 2000000 in
theorem do_13 (W0 : World) (x : LWorld) (rv mv : Value) (sb : Nat) (w : World) (s : LSt) (a b : Int) (dv : Value) (h : StR W0 x rv mv sb w s) (hloc : s.loc = none) (hl : s.stack.length ≤ 999990) :
    Calls Try.prog 56 #[.pointer (some ⟨sb, 0, none⟩), .agg #[vi 13, vi a, vi b, dv]] w fun e w' => e = .returned (.tuple #[]) ∧ StP W0 x rv mv sb w (pushS a s) w' := by
  have HS0 : Hid (StR W0 x rv mv sb (w.alloc (.cells #[vi 13, vi a, vi b, dv] 48)) s) := h.call ((Fr.refl _ _).alloc _)
  have HB0 : Hid ((w.alloc (.cells #[vi 13, vi a, vi b, dv] 48)).heap[w.heap.size]? = some (.cells #[vi 13, vi a, vi b, dv] 48 (0, 0))) := blk_new _ _
  have HT0 : Hid (FrT TS w (w.alloc (.cells #[vi 13, vi a, vi b, dv] 48))) := .of0 ((Fr.refl _ _).alloc _)
  have c7 : (w.alloc (.cells #[vi 13, vi a, vi b, dv] 48)).cell? ⟨sb, 7, none⟩ = some (.pointer none) := loc_none HS0.out hloc
  clear h hloc
  go_enter Try.func56, Try.ntmps56
  go_wp2_with fail
  refine (push_any W0 x rv mv sb _ _ _ HS0.out (by omega)).mono ?_
  rintro e w1 ⟨rfl, hs1, hf1⟩
  have HS1 := Lib.hid hs1
  have HT1 := Lib.hid (HT0.out.trans hf1)
  have HB1 := Lib.hid (hf1.get HB0.out (by decide))
  clear hs1 hf1
  go_wp2_with fail
  go_end0
  exact ⟨rfl, HS1.out, HT1.out⟩

set_option maxRecDepth 100000 in
set_option maxHeartbeats 2000000 in
theorem do_14 (W0 : World) (x : LWorld) (rv mv : Value) (sb : Nat) (w : World) (s : LSt) (a b : Int) (dv : Value) (h : StR W0 x rv mv sb w s) (hloc : s.loc = none) (hl : s.stack.length ≤ 999990) :
    Calls Try.prog 56 #[.pointer (some ⟨sb, 0, none⟩), .agg #[vi 14, vi a, vi b, dv]] w fun e w' => e = .returned (.tuple #[]) ∧ StP W0 x rv mv sb w (pushS a s) w' := by
  have HS0 : Hid (StR W0 x rv mv sb (w.alloc (.cells #[vi 14, vi a, vi b, dv] 48)) s) := h.call ((Fr.refl _ _).alloc _)
  have HB0 : Hid ((w.alloc (.cells #[vi 14, vi a, vi b, dv] 48)).heap[w.heap.size]? = some (.cells #[vi 14, vi a, vi b, dv] 48 (0, 0))) := blk_new _ _
  have HT0 : Hid (FrT TS w (w.alloc (.cells #[vi 14, vi a, vi b, dv] 48))) := .of0 ((Fr.refl _ _).alloc _)
  have c7 : (w.alloc (.cells #[vi 14, vi a, vi b, dv] 48)).cell? ⟨sb, 7, none⟩ = some (.pointer none) := loc_none HS0.out hloc
  clear h hloc
  go_enter Try.func56, Try.ntmps56
  go_wp2_with fail
  refine (push_any W0 x rv mv sb _ _ _ HS0.out (by omega)).mono ?_
  rintro e w1 ⟨rfl, hs1, hf1⟩
  have HS1 := Lib.hid hs1
  have HT1 := Lib.hid (HT0.out.trans hf1)
  have HB1 := Lib.hid (hf1.get HB0.out (by decide))
  clear hs1 hf1
  go_wp2_with fail
  go_end0
  exact ⟨rfl, HS1.out, HT1.out⟩

set_option maxRecDepth 100000 in
set_option maxHeartbeats 2000000 in
theorem do_15 (W0 : World) (x : LWorld) (rv mv : Value) (sb : Nat) (w : World) (s : LSt) (a b : Int) (dv : Value) (h : StR W0 x rv mv sb w s) (hloc : s.loc = none) (hl : s.stack.length ≤ 999990) :
    Calls Try.prog 56 #[.pointer (some ⟨sb, 0, none⟩), .agg #[vi 15, vi a, vi b, dv]] w fun e w' => e = .returned (.tuple #[]) ∧ StP W0 x rv mv sb w (pushS a s) w' := by
  have HS0 : Hid (StR W0 x rv mv sb (w.alloc (.cells #[vi 15, vi a, vi b, dv] 48)) s) := h.call ((Fr.refl _ _).alloc _)
  have HB0 : Hid ((w.alloc (.cells #[vi 15, vi a, vi b, dv] 48)).heap[w.heap.size]? = some (.cells #[vi 15, vi a, vi b, dv] 48 (0, 0))) := blk_new _ _
  have HT0 : Hid (FrT TS w (w.alloc (.cells #[vi 15, vi a, vi b, dv] 48))) := .of0 ((Fr.refl _ _).alloc _)
  have c7 : (w.alloc (.cells #[vi 15, vi a, vi b, dv] 48)).cell? ⟨sb, 7, none⟩ = some (.pointer none) := loc_none HS0.out hloc
  clear h hloc
  go_enter Try.func56, Try.ntmps56
  go_wp2_with fail
  refine (push_any W0 x rv mv sb _ _ _ HS0.out (by omega)).mono ?_
  rintro e w1 ⟨rfl, hs1, hf1⟩
  have HS1 := Lib.hid hs1
  have HT1 := Lib.hid (HT0.out.trans hf1)
  have HB1 := Lib.hid (hf1.get HB0.out (by decide))
  clear hs1 hf1
  go_wp2_with fail
  go_end0
  exact ⟨rfl, HS1.out, HT1.out⟩

set_option maxRecDepth 100000 in
set_option maxHeartbeats 2000000 in
theorem do_16 (W0 : World) (x : LWorld) (rv mv : Value) (sb : Nat) (w : World) (s : LSt) (a b : Int) (dv : Value) (h : StR W0 x rv mv sb w s) (hloc : s.loc = none) (hl : s.stack.length ≤ 999990) :
    Calls Try.prog 56 #[.pointer (some ⟨sb, 0, none⟩), .agg #[vi 16, vi a, vi b, dv]] w fun e w' => e = .returned (.tuple #[]) ∧ StP W0 x rv mv sb w (pushS a s) w' := by
  have HS0 : Hid (StR W0 x rv mv sb (w.alloc (.cells #[vi 16, vi a, vi b, dv] 48)) s) := h.call ((Fr.refl _ _).alloc _)
  have HB0 : Hid ((w.alloc (.cells #[vi 16, vi a, vi b, dv] 48)).heap[w.heap.size]? = some (.cells #[vi 16, vi a, vi b, dv] 48 (0, 0))) := blk_new _ _
  have HT0 : Hid (FrT TS w (w.alloc (.cells #[vi 16, vi a, vi b, dv] 48))) := .of0 ((Fr.refl _ _).alloc _)
  have c7 : (w.alloc (.cells #[vi 16, vi a, vi b, dv] 48)).cell? ⟨sb, 7, none⟩ = some (.pointer none) := loc_none HS0.out hloc
  clear h hloc
  go_enter Try.func56, Try.ntmps56
  go_wp2_with fail
  refine (push_any W0 x rv mv sb _ _ _ HS0.out (by omega)).mono ?_
  rintro e w1 ⟨rfl, hs1, hf1⟩
  have HS1 := Lib.hid hs1
  have HT1 := Lib.hid (HT0.out.trans hf1)
  have HB1 := Lib.hid (hf1.get HB0.out (by decide))
  clear hs1 hf1
  go_wp2_with fail
  go_end0
  exact ⟨rfl, HS1.out, HT1.out⟩

set_option maxRecDepth 100000 in
set_option maxHeartbeats 2000000 in
theorem do_17 (W0 : World) (x : LWorld) (rv mv : Value) (sb : Nat) (w : World) (s : LSt) (a b : Int) (dv : Value) (h : StR W0 x rv mv sb w s) (hloc : s.loc = none) (hl : s.stack.length ≤ 999990) :
    Calls Try.prog 56 #[.pointer (some ⟨sb, 0, none⟩), .agg #[vi 17, vi a, vi b, dv]] w fun e w' => e = .returned (.tuple #[]) ∧ StP W0 x rv mv sb w (pushS a s) w' := by
  have HS0 : Hid (StR W0 x rv mv sb (w.alloc (.cells #[vi 17, vi a, vi b, dv] 48)) s) := h.call ((Fr.refl _ _).alloc _)
  have HB0 : Hid ((w.alloc (.cells #[vi 17, vi a, vi b, dv] 48)).heap[w.heap.size]? = some (.cells #[vi 17, vi a, vi b, dv] 48 (0, 0))) := blk_new _ _
  have HT0 : Hid (FrT TS w (w.alloc (.cells #[vi 17, vi a, vi b, dv] 48))) := .of0 ((Fr.refl _ _).alloc _)
  have c7 : (w.alloc (.cells #[vi 17, vi a, vi b, dv] 48)).cell? ⟨sb, 7, none⟩ = some (.pointer none) := loc_none HS0.out hloc
  clear h hloc
  go_enter Try.func56, Try.ntmps56
  go_wp2_with fail
  refine (push_any W0 x rv mv sb _ _ _ HS0.out (by omega)).mono ?_
  rintro e w1 ⟨rfl, hs1, hf1⟩
  have HS1 := Lib.hid hs1
  have HT1 := Lib.hid (HT0.out.trans hf1)
  have HB1 := Lib.hid (hf1.get HB0.out (by decide))
  clear hs1 hf1
  go_wp2_with fail
  go_end0
  exact ⟨rfl, HS1.out, HT1.out⟩

set_option maxRecDepth 100000 in
set_option maxHeartbeats 2000000 in
theorem do_158 (W0 : World) (x : LWorld) (rv mv : Value) (sb : Nat) (w : World) (s : LSt) (a b : Int) (dv : Value) (h : StR W0 x rv mv sb w s) (hloc : s.loc = none) (hl : s.stack.length ≤ 999990) (l : List UInt8) (hd : Sl W0 dv (vbs l)) :
    Calls Try.prog 56 #[.pointer (some ⟨sb, 0, none⟩), .agg #[vi 158, vi a, vi b, dv]] w fun e w' => e = .returned (.tuple #[]) ∧ StP W0 x rv mv sb w (placeS ⟨2, 0, (l.length : Nat), l, false⟩ s) w' := by
  have HS0 : Hid (StR W0 x rv mv sb (w.alloc (.cells #[vi 158, vi a, vi b, dv] 48)) s) := h.call ((Fr.refl _ _).alloc _)
  have HB0 : Hid ((w.alloc (.cells #[vi 158, vi a, vi b, dv] 48)).heap[w.heap.size]? = some (.cells #[vi 158, vi a, vi b, dv] 48 (0, 0))) := blk_new _ _
  have HT0 : Hid (FrT TS w (w.alloc (.cells #[vi 158, vi a, vi b, dv] 48))) := .of0 ((Fr.refl _ _).alloc _)
  have c7 : (w.alloc (.cells #[vi 158, vi a, vi b, dv] 48)).cell? ⟨sb, 7, none⟩ = some (.pointer none) := loc_none HS0.out hloc
  clear h hloc
  obtain ⟨da, dc, rfl⟩ := sl_form hd
  have Hd := Lib.hid hd
  clear hd
  go_enter Try.func56, Try.ntmps56
  go_wp2_with fail
  refine (place_any W0 x rv mv sb _ _ ⟨2, 0, (l.length : Nat), l, false⟩ (.slice da l.length dc) HS0.out (.inl Hd.out)).mono ?_
  rintro e w1 ⟨rfl, hs1, hf1⟩
  have HS1 := Lib.hid hs1
  have HT1 := Lib.hid (HT0.out.trans hf1)
  have HB1 := Lib.hid (hf1.get HB0.out (by decide))
  clear hs1 hf1
  go_wp2_with fail
  go_end0
  exact ⟨rfl, HS1.out, HT1.out⟩

set_option maxRecDepth 100000 in
set_option maxHeartbeats 2000000 in
theorem do_159 (W0 : World) (x : LWorld) (rv mv : Value) (sb : Nat) (w : World) (s : LSt) (a b : Int) (dv : Value) (h : StR W0 x rv mv sb w s) (hloc : s.loc = none) (hl : s.stack.length ≤ 999990) :
    Calls Try.prog 56 #[.pointer (some ⟨sb, 0, none⟩), .agg #[vi 159, vi a, vi b, dv]] w fun e w' => e = .returned (.tuple #[]) ∧ StP W0 x rv mv sb w (placeS ⟨2, (popS s).1, 0, [], true⟩ (popS s).2) w' := by
  have HS0 : Hid (StR W0 x rv mv sb (w.alloc (.cells #[vi 159, vi a, vi b, dv] 48)) s) := h.call ((Fr.refl _ _).alloc _)
  have HB0 : Hid ((w.alloc (.cells #[vi 159, vi a, vi b, dv] 48)).heap[w.heap.size]? = some (.cells #[vi 159, vi a, vi b, dv] 48 (0, 0))) := blk_new _ _
  have HT0 : Hid (FrT TS w (w.alloc (.cells #[vi 159, vi a, vi b, dv] 48))) := .of0 ((Fr.refl _ _).alloc _)
  have c7 : (w.alloc (.cells #[vi 159, vi a, vi b, dv] 48)).cell? ⟨sb, 7, none⟩ = some (.pointer none) := loc_none HS0.out hloc
  clear h hloc
  go_enter Try.func56, Try.ntmps56
  go_wp2_with fail
  refine (pop_any W0 x rv mv sb _ _ HS0.out).mono ?_
  rintro e w1 ⟨rfl, hs1, hf1⟩
  have HS1 := Lib.hid hs1
  have HT1 := Lib.hid (HT0.out.trans hf1)
  have HB1 := Lib.hid (hf1.get HB0.out (by decide))
  clear hs1 hf1
  go_wp2_with fail
  refine (place_any W0 x rv mv sb _ _ ⟨2, (popS s).1, 0, [], true⟩ (.slice none 0 0) HS1.out (PB.nil _ _)).mono ?_
  rintro e w2 ⟨rfl, hs1, hf1⟩
  have HS2 := Lib.hid hs1
  have HT2 := Lib.hid (HT1.out.trans hf1)
  have HB2 := Lib.hid (hf1.get HB1.out (by decide))
  clear hs1 hf1
  go_wp2_with fail
  go_end0
  exact ⟨rfl, HS2.out, HT2.out⟩

set_option maxRecDepth 100000 in
set_option maxHeartbeats 2000000 in
theorem do_147 (W0 : World) (x : LWorld) (rv mv : Value) (sb : Nat) (w : World) (s : LSt) (a b : Int) (dv : Value) (h : StR W0 x rv mv sb w s) (hl : s.stack.length ≤ 999990) (hp : s.pieces.length ≤ 1000000) (ha : 0 ≤ a) :
    Calls Try.prog 56 #[.pointer (some ⟨sb, 0, none⟩), .agg #[vi 147, vi a, vi b, dv]] w fun e w' => e = .returned (.tuple #[]) ∧ StP W0 x rv mv sb w (pieceS a s) w' := by
  have HS0 : Hid (StR W0 x rv mv sb (w.alloc (.cells #[vi 147, vi a, vi b, dv] 48)) s) := h.call ((Fr.refl _ _).alloc _)
  have HB0 : Hid ((w.alloc (.cells #[vi 147, vi a, vi b, dv] 48)).heap[w.heap.size]? = some (.cells #[vi 147, vi a, vi b, dv] 48 (0, 0))) := blk_new _ _
  have HT0 : Hid (FrT TS w (w.alloc (.cells #[vi 147, vi a, vi b, dv] 48))) := .of0 ((Fr.refl _ _).alloc _)
  have c7 : ∃ lv, (w.alloc (.cells #[vi 147, vi a, vi b, dv] 48)).cell? ⟨sb, 7, none⟩ = some (.pointer lv) := by
    cases hl : s.loc with
    | none => exact ⟨_, loc_none HS0.out hl⟩
    | some p => obtain ⟨g, hg⟩ := loc_some HS0.out (by rw [hl]; rfl); exact ⟨_, hg⟩
  obtain ⟨lv, c7⟩ := c7
  clear h
  cases lv
  all_goals
    go_enter Try.func56, Try.ntmps56
    go_wp2_with fail
    refine (piece_any W0 x rv mv sb _ _ a HS0.out hp ha).mono ?_
    rintro e w1 ⟨rfl, hs1, hf1⟩
    have HS1 := Lib.hid hs1
    have HT1 := Lib.hid (HT0.out.trans hf1)
    have HB1 := Lib.hid (hf1.get HB0.out (by decide))
    clear hs1 hf1
    go_wp2_with fail
    go_end0
    exact ⟨rfl, HS1.out, HT1.out⟩

set_option maxRecDepth 100000 in
set_option maxHeartbeats 2000000 in
theorem do_150 (W0 : World) (x : LWorld) (rv mv : Value) (sb : Nat) (w : World) (s : LSt) (a b : Int) (dv : Value) (h : StR W0 x rv mv sb w s) (hloc : s.loc = none) (hl : s.stack.length ≤ 999990) :
    Calls Try.prog 56 #[.pointer (some ⟨sb, 0, none⟩), .agg #[vi 150, vi a, vi b, dv]] w fun e w' => e = .returned (.tuple #[]) ∧ StP W0 x rv mv sb w (s) w' := by
  have HS0 : Hid (StR W0 x rv mv sb (w.alloc (.cells #[vi 150, vi a, vi b, dv] 48)) s) := h.call ((Fr.refl _ _).alloc _)
  have HB0 : Hid ((w.alloc (.cells #[vi 150, vi a, vi b, dv] 48)).heap[w.heap.size]? = some (.cells #[vi 150, vi a, vi b, dv] 48 (0, 0))) := blk_new _ _
  have HT0 : Hid (FrT TS w (w.alloc (.cells #[vi 150, vi a, vi b, dv] 48))) := .of0 ((Fr.refl _ _).alloc _)
  have c7 : (w.alloc (.cells #[vi 150, vi a, vi b, dv] 48)).cell? ⟨sb, 7, none⟩ = some (.pointer none) := loc_none HS0.out hloc
  clear h hloc
  go_enter Try.func56, Try.ntmps56
  go_wp2_with fail
  go_end0
  exact ⟨rfl, HS0.out, HT0.out⟩

set_option maxRecDepth 100000 in
set_option maxHeartbeats 2000000 in
theorem do_oper (W0 : World) (x : LWorld) (rv mv : Value) (sb : Nat) (w : World) (s : LSt) (op a b : Int) (dv : Value) (h : StR W0 x rv mv sb w s) (hloc : s.loc = none) (hl : s.stack.length ≤ 999990) (data : List UInt8) (ho : opKnown op) (hp : op = 21 → 0 ≤ a) (h1 : ¬ 48 ≤ op ∨ 147 < op) (h2 : ¬ 80 ≤ op ∨ 147 < op) (h3 : ¬ 112 ≤ op ∨ 147 < op) (h4 : ¬ 8 ≤ op ∨ 17 < op) (q144 : (op == 144) = false) (q146 : (op == 146) = false) (q145 : (op == 145) = false) (q156 : (op == 156) = false) (q3 : (op == 3) = false) (q158 : (op == 158) = false) (q159 : (op == 159) = false) (q147 : (op == 147) = false) (q150 : (op == 150) = false) :
    Calls Try.prog 56 #[.pointer (some ⟨sb, 0, none⟩), .agg #[vi op, vi a, vi b, dv]] w fun e w' => e = .returned (.tuple #[]) ∧ StP W0 x rv mv sb w (operateS x ⟨op, a, b, data⟩ s) w' := by
  have HS0 : Hid (StR W0 x rv mv sb (w.alloc (.cells #[vi op, vi a, vi b, dv] 48)) s) := h.call ((Fr.refl _ _).alloc _)
  have HB0 : Hid ((w.alloc (.cells #[vi op, vi a, vi b, dv] 48)).heap[w.heap.size]? = some (.cells #[vi op, vi a, vi b, dv] 48 (0, 0))) := blk_new _ _
  have HT0 : Hid (FrT TS w (w.alloc (.cells #[vi op, vi a, vi b, dv] 48))) := .of0 ((Fr.refl _ _).alloc _)
  have c7 : (w.alloc (.cells #[vi op, vi a, vi b, dv] 48)).cell? ⟨sb, 7, none⟩ = some (.pointer none) := loc_none HS0.out hloc
  clear h hloc
  have hcase : op < 48 ∨ op = 148 := by
    simp only [opKnown, List.mem_cons, List.not_mem_nil, or_false] at ho
    omega
  have Ho := Lib.hid ho
  have Hp := Lib.hid hp
  clear ho hp
  rcases hcase with hc | rfl
  · have k1 : ¬ 48 ≤ op := by omega
    have k2 : ¬ 80 ≤ op := by omega
    have k3 : ¬ 112 ≤ op := by omega
    clear h1 h2 h3
    rcases h4 with h4 | h4
    all_goals
      go_enter Try.func56, Try.ntmps56
      go_wp2_with fail
      refine (operate_any W0 x rv mv sb _ _ ⟨op, a, b, data⟩ dv HS0.out (by omega) Ho.out Hp.out).mono ?_
      rintro e w1 ⟨rfl, hs1, hf1⟩
      have HS1 := Lib.hid hs1
      have HT1 := Lib.hid (HT0.out.trans hf1)
      have HB1 := Lib.hid (hf1.get HB0.out (by decide))
      clear hs1 hf1
      go_wp2_with fail
      go_end0
      exact ⟨rfl, HS1.out, HT1.out⟩
  · clear h1 h2 h3 h4
    go_enter Try.func56, Try.ntmps56
    go_wp2_with fail
    refine (operate_any W0 x rv mv sb _ _ ⟨148, a, b, data⟩ dv HS0.out (by omega) Ho.out Hp.out).mono ?_
    rintro e w1 ⟨rfl, hs1, hf1⟩
    have HS1 := Lib.hid hs1
    have HT1 := Lib.hid (HT0.out.trans hf1)
    have HB1 := Lib.hid (hf1.get HB0.out (by decide))
    clear hs1 hf1
    go_wp2_with fail
    go_end0
    exact ⟨rfl, HS1.out, HT1.out⟩
end Go.Proofs.Ytahohmdfllgedaa

namespace Go.Proofs.Ytahohmdfllgedaa
open Go.RowKit

theorem eshape_ops {op : Int} (h : (eshape op).2 = true) : (48 ≤ op ∧ op < 149) ∨ op = 3 ∨ (8 ≤ op ∧ op ≤ 23) ∨ op = 6 ∨ (25 ≤ op ∧ op ≤ 47) ∨ op = 150 ∨ op = 156 ∨ op = 158 ∨ op = 159 := by
  apply Classical.byContradiction
  intro hn
  have e : eshape op = ([], false) := by
    unfold eshape
    repeat rw [if_neg (by omega)]
  rw [e] at h; cases h
theorem known_shape {op a : Int} {n : Nat} (h : knownB op a n = true) : (eshape op).2 = true := by
  simp only [knownB, Bool.and_eq_true] at h; exact h.1.1
theorem known_len {op a : Int} {n : Nat} (h : knownB op a n = true) : n ≤ 64 := by
  simp only [knownB, Bool.and_eq_true, decide_eq_true_eq] at h; exact h.1.2
theorem known_range {op a : Int} {n : Nat} (h : knownB op a n = true) : knownR op a = true := by
  simp only [knownB, Bool.and_eq_true] at h; exact h.2
theorem known_147 {a : Int} {n : Nat} (h : knownB 147 a n = true) : 0 ≤ a ∧ a < 1048576 := by
  have := known_range h; simpa [knownR] using this
theorem known_21 {a : Int} {n : Nat} (h : knownB 21 a n = true) : 0 ≤ a ∧ a < 256 := by
  have := known_range h; simpa [knownR] using this
theorem eqf {a b : Int} (h : a ≠ b) : (a == b) = false := by simpa using h

theorem do_any (W0 : World) (x : LWorld) (rv mv : Value) (sb : Nat) (w : World) (s : LSt) (c : LCall) (dv : Value) (h : StR W0 x rv mv sb w s) (hl : s.stack.length ≤ 999990) (hp : s.pieces.length ≤ 1000000)
    (hk : knownB c.op c.a c.data.length = true) (hd : Sl W0 dv (vbs c.data)) (h47 : c.op ≠ 47) :
    Calls Try.prog 56 #[.pointer (some ⟨sb, 0, none⟩), opV c dv] w fun e w' => e = .returned (.tuple #[]) ∧ StP W0 x rv mv sb w (doS x c s) w' := by
  obtain ⟨op, a, b, data⟩ := c
  show Calls Try.prog 56 #[.pointer (some ⟨sb, 0, none⟩), .agg #[vi op, vi a, vi b, dv]] w fun e w' => _
  simp only at hk hd h47
  have hs := eshape_ops (known_shape hk)
  by_cases hloc : s.loc.isSome = true ∧ op ≠ 147
  · have e : doS x ⟨op, a, b, data⟩ s = s.mkLeft := by unfold doS; rw [if_pos hloc]
    rw [e]; exact do_left W0 x rv mv sb w s op a b dv h hl hloc.1 (eqf hloc.2)
  by_cases h147 : op = 147
  · subst h147
    have e : doS x ⟨147, a, b, data⟩ s = pieceS a s := by simp [doS]
    rw [e]; exact do_147 W0 x rv mv sb w s a b dv h hl hp (known_147 hk).1
  have hn : s.loc = none := by
    cases hl : s.loc with
    | none => rfl
    | some p => exact absurd ⟨by rw [hl]; rfl, h147⟩ hloc
  unfold doS
  simp only
  rw [if_neg hloc]
  clear hloc
  by_cases c1 : 48 ≤ op ∧ op < 80
  · rw [if_pos c1]; exact do_lit W0 x rv mv sb w s op a b dv h hn hl c1.1 c1.2
  rw [if_neg c1]
  by_cases c2 : 80 ≤ op ∧ op < 112
  · rw [if_pos c2]; exact do_reg W0 x rv mv sb w s op a b dv h hn hl c2.1 c2.2 (by omega) (by omega)
  rw [if_neg c2]
  by_cases c3 : 112 ≤ op ∧ op < 144
  · rw [if_pos c3]; exact do_breg W0 x rv mv sb w s op a b dv h hn hl c3.1 c3.2 (by omega) (by omega) (by omega) (by omega)
  rw [if_neg c3]
  by_cases c4 : op = 144
  · rw [if_pos c4]; subst c4; exact do_144 W0 x rv mv sb w s a b dv h hn hl
  rw [if_neg c4]
  by_cases c5 : op = 146
  · rw [if_pos c5]; subst c5; exact do_146 W0 x rv mv sb w s a b dv h hn hl
  rw [if_neg c5]
  by_cases c6 : op = 145
  · rw [if_pos c6]; subst c6; exact do_145 W0 x rv mv sb w s a b dv h hn hl
  rw [if_neg c6]
  by_cases c7 : op = 156
  · rw [if_pos c7]; subst c7
    by_cases hc : x.cfa = 0
    · rw [if_pos hc]; exact do_156z W0 x rv mv sb w s a b dv h hn hl (by simpa using hc)
    · rw [if_neg hc]; exact do_156n W0 x rv mv sb w s a b dv h hn hl (by simpa using hc)
  rw [if_neg c7]
  by_cases c8 : op = 3 ∨ (8 ≤ op ∧ op ≤ 17)
  · rw [if_pos c8]
    have h8 : op = 3 ∨ op = 8 ∨ op = 9 ∨ op = 10 ∨ op = 11 ∨ op = 12 ∨ op = 13 ∨ op = 14 ∨ op = 15 ∨ op = 16 ∨ op = 17 := by omega
    clear hs c1 c2 c3 c4 c5 c6 c7 c8 h147 h47
    rcases h8 with rfl | rfl | rfl | rfl | rfl | rfl | rfl | rfl | rfl | rfl | rfl
    · exact do_3 W0 x rv mv sb w s a b dv h hn hl
    · exact do_8 W0 x rv mv sb w s a b dv h hn hl
    · exact do_9 W0 x rv mv sb w s a b dv h hn hl
    · exact do_10 W0 x rv mv sb w s a b dv h hn hl
    · exact do_11 W0 x rv mv sb w s a b dv h hn hl
    · exact do_12 W0 x rv mv sb w s a b dv h hn hl
    · exact do_13 W0 x rv mv sb w s a b dv h hn hl
    · exact do_14 W0 x rv mv sb w s a b dv h hn hl
    · exact do_15 W0 x rv mv sb w s a b dv h hn hl
    · exact do_16 W0 x rv mv sb w s a b dv h hn hl
    · exact do_17 W0 x rv mv sb w s a b dv h hn hl
  rw [if_neg c8]
  by_cases c9 : op = 158
  · rw [if_pos c9]; subst c9; exact do_158 W0 x rv mv sb w s a b dv h hn hl data hd
  rw [if_neg c9]
  by_cases c10 : op = 159
  · rw [if_pos c10]; subst c10; exact do_159 W0 x rv mv sb w s a b dv h hn hl
  rw [if_neg c10, if_neg h147]
  by_cases c11 : op = 150
  · rw [if_pos c11]; subst c11; exact do_150 W0 x rv mv sb w s a b dv h hn hl
  rw [if_neg c11]
  refine do_oper W0 x rv mv sb w s op a b dv h hn hl data ?_ (fun e => by subst e; exact (known_21 hk).1) (by omega) (by omega) (by omega) (by omega) (eqf c4) (eqf c5) (eqf c6) (eqf c7) (eqf (by omega)) (eqf c9) (eqf c10) (eqf h147) (eqf c11)
  simp only [opKnown, List.mem_cons, List.not_mem_nil, or_false]
  omega
end Go.Proofs.Ytahohmdfllgedaa

namespace Go.Proofs.Ytahohmdfllgedaa
open Go.RowKit

theorem popS_pcs (s : LSt) : (popS s).2.pieces = s.pieces := by
  rcases List.eq_nil_or_concat s.stack with hs | ⟨l, v, hs⟩
  · rw [popS_nil hs]; rfl
  · have hs' : s.stack = l ++ [v] := by simpa using hs
    rw [popS_snoc hs']
theorem loadS_pcs (x : LWorld) (a n : Nat) (s : LSt) : (loadS x a n s).2.pieces = s.pieces := by unfold loadS; split <;> rfl
theorem registerS_pcs (x : LWorld) (n : Int) (s : LSt) : (registerS x n s).2.pieces = s.pieces := by unfold registerS; split <;> rfl
theorem shiftS_len (op a b : Int) (s : LSt) : (shiftS op a b s).stack.length ≤ s.stack.length + 1 ∧ (shiftS op a b s).pieces = s.pieces := by
  unfold shiftS
  repeat' split
  all_goals simp [pushS, LSt.mkLeft]
theorem twoS_len (op a b : Int) (s : LSt) : (twoS op a b s).stack.length ≤ s.stack.length + 1 ∧ (twoS op a b s).pieces = s.pieces := by
  unfold twoS
  repeat' (refine iteInduction (motive := fun t : LSt => t.stack.length ≤ s.stack.length + 1 ∧ t.pieces = s.pieces) ?_ ?_ <;> intro _)
  all_goals first | exact shiftS_len op a b s | simp [pushS, LSt.mkLeft, LSt.mkBad]
theorem operateS_len (x : LWorld) (c : LCall) (s : LSt) : (operateS x c s).stack.length ≤ s.stack.length + 3 ∧ (operateS x c s).pieces = s.pieces := by
  have p1 := popS_len s
  have p2 := popS_len (popS s).2
  have p3 := popS_len (popS (popS s).2).2
  have r1 := popS_pcs s
  have r2 := popS_pcs (popS s).2
  have r3 := popS_pcs (popS (popS s).2).2
  have t := twoS_len c.op (popS (popS s).2).1 (popS s).1 (popS (popS s).2).2
  unfold operateS
  repeat' (refine iteInduction (motive := fun t : LSt => t.stack.length ≤ s.stack.length + 3 ∧ t.pieces = s.pieces) ?_ ?_ <;> intro _)
  all_goals (try simp [pushS, LSt.mkLeft, LSt.mkBad, loadS_len, loadS_pcs, r1, r2, r3, -List.length_append])
  all_goals first | omega | (refine ⟨by simp; omega, ?_⟩; simp [r1, r2, r3]) | (simp; done) | (simp; omega) | (refine ⟨by omega, ?_⟩; rw [t.2, r2, r1]) | skip
theorem pieceS_len (n : Int) (s : LSt) : (pieceS n s).stack.length ≤ s.stack.length ∧ (pieceS n s).pieces.length ≤ s.pieces.length + 1 := by
  have p1 := popS_len s
  unfold pieceS
  split
  · simp [LSt.mkLeft]
  · split
    · simp
    · split
      · simpa using p1
      · simp [LSt.mkLeft]
theorem placeS_len (p : LPiece) (s : LSt) : (placeS p s).stack = s.stack ∧ (placeS p s).pieces = s.pieces := by unfold placeS; split <;> exact ⟨rfl, rfl⟩
def Grown (s t : LSt) : Prop := t.stack.length ≤ s.stack.length + 3 ∧ t.pieces.length ≤ s.pieces.length + 1
theorem doS_len (x : LWorld) (c : LCall) (s : LSt) : Grown s (doS x c s) := by
  have p1 := popS_len s
  have r1 := popS_pcs s
  have o := operateS_len x c s
  have pc := pieceS_len c.a s
  unfold doS
  generalize pieceS c.a s = P at *
  generalize operateS x c s = O at *
  repeat' (refine iteInduction (motive := fun t : LSt => Grown s t) ?_ ?_ <;> intro _)
  all_goals (try simp [Grown, pushS, LSt.mkLeft, registerS_len, registerS_pcs, placeS_len, r1])
  all_goals first | omega | (rw [o.2]; omega) | (split <;> simp) | skip
theorem jumpS_len (c : LCall) (s : LSt) : (jumpS c s).2.2.stack.length ≤ s.stack.length ∧ (jumpS c s).2.2.pieces = s.pieces := by
  have p1 := popS_len s
  have r1 := popS_pcs s
  unfold jumpS
  repeat' split
  all_goals first | exact ⟨p1, r1⟩ | exact ⟨Nat.le_refl _, rfl⟩
theorem stepS_len (x : LWorld) (c : LCall) (k : Nat) (s : LSt) : Grown s (stepS x c k s).2 := by
  have j := jumpS_len c s
  have d := doS_len x c (jumpS c s).2.2
  rw [Grown] at *
  unfold stepS
  repeat' split
  all_goals simp only [LSt.mkLeft]
  · exact ⟨by omega, by omega⟩
  · rw [j.2]; exact ⟨by omega, by omega⟩
  · rw [j.2] at d; exact ⟨by omega, by omega⟩

theorem RCall.fr {W w : World} {vs : List Value} {c : LCall} (h : RCall W vs c) (f : Fr [] W w) : RCall w vs c := by
  obtain ⟨dv, h1, h2, h3⟩ := h; exact ⟨dv, h1, h2.fr f (by simp), h3⟩
theorem RSl.fr {α : Type} {size : Nat} {R R' : List Value → α → Prop} {W w : World} {v : Value} {l : List α} (h : RSl size R W v l) (f : Fr [] W w) (hR : ∀ vs x, R vs x → R' vs x) : RSl size R' w v l := by
  rcases h with h | ⟨x, c, h1, h2, h3, h4⟩
  · exact .inl h
  · refine .inr ⟨x, c, h1, h2, h3, fun i hi => ?_⟩
    obtain ⟨vs, k1, k2, k3⟩ := h4 i hi
    exact ⟨vs, k1, hR _ _ k2, fun j u hj => f.cell (k3 j u hj) (by simp)⟩
theorem RWorld.fr {W w : World} {rv mv : Value} {x : LWorld} (h : RWorld W rv mv x) (f : Fr [] W w) : RWorld w rv mv x :=
  ⟨h.rg.fr f (by simp), h.rl, h.mm.fr f (by simp), h.b1, h.b2, h.b3⟩

/-- A slice of pieces, to be read. -/
def RPiece (W : World) (vs : List Value) (p : LPiece) : Prop := ∃ bv, vs = pcell p bv ∧ Sl W bv (vbs p.bytes)
/-- The pieces of an evaluation that came to its end. -/
def resP (s : LSt) : List LPiece := if s.pieces ≠ [] then s.pieces else match s.loc with | some p => [p] | none => []
def EvalP (w : World) (o : Out) (e : Ending) (w' : World) : Prop :=
  Fr [] w w' ∧ match o with
  | .left => e = .returned (.tuple #[vi 0, .slice none 0 0, vi 2])
  | .bad => e = .returned (.tuple #[vi 0, .slice none 0 0, vi 1])
  | .fine s => ∃ v pv, e = .returned (.tuple #[vi v, pv, vi 0]) ∧ RSl 5 (RPiece w') w' pv (resP s) ∧ (resP s = [] → s.stack.getLast? = some v)

theorem pcells_get (qs : List (LPiece × Value)) : ∀ (i j : Nat) (h : i < qs.length), j < 5 → (pcells qs)[i * 5 + j]? = (pcell qs[i].1 qs[i].2)[j]? := by
  induction qs with
  | nil => intro i j h; simp at h
  | cons q qs ih =>
    intro i j h hj
    have e : pcells (q :: qs) = pcell q.1 q.2 ++ pcells qs := by simp [pcells]
    rw [e]
    cases i with
    | zero => rw [Nat.zero_mul, Nat.zero_add, List.getElem?_append_left (by simpa using hj)]; rfl
    | succ i =>
      rw [List.getElem?_append_right (by simp; omega)]
      have := ih i j (by simpa using h) hj
      have e2 : (i + 1) * 5 + j - (pcell q.1 q.2).length = i * 5 + j := by simp; omega
      rw [e2, this]; rfl
theorem own_rsl {w : World} {base : Nat} {pv : Value} {ps : List LPiece} {qs : List (LPiece × Value)} (h : w.ownsRow base 114 5 pv ps.length (pcells qs)) (hq : qs.map (·.1) = ps) (hb : ∀ q ∈ qs, Sl w q.2 (vbs q.1.bytes)) :
    RSl 5 (RPiece w) w pv ps := by
  rcases h.2 with ⟨rfl, h0⟩ | ⟨g, cap, cur, rfl, hb', hg, hnc, hcm, hcs, htake⟩
  · exact .inl ⟨rfl, List.eq_nil_of_length_eq_zero h0⟩
  · refine .inr ⟨⟨g, 0, none⟩, cap, rfl, hnc, hcm, fun i hi => ?_⟩
    have hi' : i < qs.length := by rw [← hq] at hi; simpa using hi
    have hp : ps[i] = qs[i].1 := by simp [← hq]
    refine ⟨pcell qs[i].1 qs[i].2, rfl, ⟨qs[i].2, by rw [hp], by rw [hp]; exact hb _ (List.getElem_mem _)⟩, fun j u hj => ?_⟩
    have hj5 : j < 5 := by have := (List.getElem?_eq_some_iff.1 hj).1; simpa using this
    exact h.cells (g := g) rfl (i * 5 + j) u (by rw [pcells_get qs i j hi' hj5]; exact hj)
theorem rsl_one {w : World} {g : Nat} {p : LPiece} {bv : Value} (hg : w.heap[g]? = some (.cells (pcell p bv).toArray 114 (0, 0))) (hb : Sl w bv (vbs p.bytes)) : RSl 5 (RPiece w) w (.slice (some ⟨g, 0, none⟩) 1 1) [p] := by
  refine .inr ⟨⟨g, 0, none⟩, 1, rfl, Nat.le_refl _, by decide, fun i hi => ?_⟩
  have : i = 0 := by simpa using hi
  subst this
  refine ⟨pcell p bv, rfl, ⟨bv, rfl, hb⟩, fun j u hj => ?_⟩
  rw [Addr.add_lit, blk_cell hg]
  simpa using hj

theorem runS_end {x : LWorld} {l : List LCall} {f k : Nat} {s : LSt} (h : ¬ k < l.length) : runS x l f k s = finishS s := by
  cases f <;> simp [runS, h]
theorem runS_zero {x : LWorld} {l : List LCall} {k : Nat} {s : LSt} (h : k < l.length) : runS x l 0 k s = .left := by simp [runS, h]
theorem runS_succ {x : LWorld} {l : List LCall} {f k : Nat} {s : LSt} (h : k < l.length) : runS x l (f + 1) k s =
    if (stepS x l[k] (k + 1) s).2.left = true then .left else if (stepS x l[k] (k + 1) s).2.bad = true then .bad else runS x l f (stepS x l[k] (k + 1) s).1.toNat (stepS x l[k] (k + 1) s).2 := by
  rw [runS]; simp [h]

theorem jumpS_to {c : LCall} {s : LSt} (h : (jumpS c s).2.1 = true) : (jumpS c s).1 = c.a ∧ (c.op = 40 ∨ c.op = 47) := by
  unfold jumpS at h
  split at h
  · rename_i h1
    exact ⟨by simp [jumpS, h1], .inr h1⟩
  · split at h
    · rename_i h1 h2
      split at h
      · rename_i h3
        exact ⟨by simp [jumpS, h2, h3], .inl h2⟩
      · cases h
    · cases h

structure EvR (w : World) (x : LWorld) (rv mv : Value) (l : List LCall) (n : Nat) (o : Out) (k j : Nat) (s : LSt) (wr : World) : Prop where
  hk : k ≤ l.length
  hj : j ≤ fuelOf n
  run : runS x l (fuelOf n - j) k s = o
  st : StR w x rv mv (w.heap.size + 1) wr s
  l1 : s.stack.length ≤ 3 * j
  l2 : s.pieces.length ≤ j
  nl : s.left = false
  nb : s.bad = false

set_option maxRecDepth 100000 in
set_option maxHeartbeats 4000000 in
theorem sEvaluate_any (W : World) (v rv mv : Value) (l : List LCall) (x : LWorld) (n : Nat) (w : World) (hl : RSl 4 (RCall W) W v l) (hx : RWorld W rv mv x) (hf : Fr [] W w) (hn : n ≤ 100000)
    (hkn : ∀ c ∈ l, knownB c.op c.a c.data.length = true) (hjb : ∀ c ∈ l, (c.op = 40 ∨ c.op = 47) → 0 ≤ c.a ∧ c.a ≤ l.length) :
    Calls Try.prog 28 #[v, worldV rv mv x, vi n] w (EvalP w (evalS x l n)) := by
  obtain ⟨a, c, rfl, h1, h2⟩ := hl.shape
  have hx1 := hx.fr hf
  have Hl := Lib.hid (hl.fr hf (fun vs c h => RCall.fr h hf))
  have hst : StR w x rv mv (w.heap.size + 1) ((w.alloc (.cells #[rv, vi x.base, vi x.cfa, .int .u64 (x.at_ : Int), mv] 52)).alloc (.cells (stCells x rv mv (.slice none 0 0) (.slice none 0 0) (.pointer none) false false) 109)) st0 :=
    ⟨_, _, _, [], ⟨by have := blk_new (w.alloc (.cells #[rv, vi x.base, vi x.cfa, .int .u64 (x.at_ : Int), mv] 52)) (.cells (stCells x rv mv (.slice none 0 0) (.slice none 0 0) (.pointer none) false false) 109); simpa [st0] using this, hx1, ((Fr.refl _ _).alloc _).alloc _, by omega, World.ownsRow_nil _ _ _ _, World.ownsRow_nil _ _ _ _, rfl, by simp, .none⟩⟩
  have Hst := Lib.hid hst
  obtain ⟨o, ho⟩ : ∃ o, evalS x l n = o := ⟨_, rfl⟩
  rw [ho]
  have Ho : Hid (runS x l (fuelOf n) 0 st0 = o) := ho
  have Hk := Lib.hid hkn
  have Hjb := Lib.hid hjb
  clear hf hx hl hst hx1 ho hkn hjb
  go_enter Try.func28, Try.ntmps28
  go_wp2_with fail
  go_loopw [10, 11] (fun at_ st wr => ∃ k j s, at_ = vi ((k : Nat) : Int) ∧ st = vi ((j : Nat) : Int) ∧ EvR w x rv mv l n o k j s wr) (fun _ st _ => fuelOf n + 1 - (intOf st).toNat)
  case atStart => exact ⟨0, 0, st0, rfl, rfl, Nat.zero_le _, Nat.zero_le _, Ho.out, Hst.out, by simp [st0], by simp [st0], rfl, rfl⟩
  case round =>
    obtain ⟨k, j, s, rfl, rfl, hr⟩ := hrel
    have Hr := Lib.hid hr
    clear hr
    by_cases hlt : k < l.length
    · by_cases hfu : j = fuelOf n
      · have ho : o = .left := by have := Hr.out.run; rw [hfu, Nat.sub_self, runS_zero hlt] at this; exact this.symm
        have E := Lib.hid ho
        have hw := Hr.out.st.fr
        have Hw := Lib.hid hw
        clear ho hw
        by_cases h5 : 8 * (n : Int) < 500
        · have hj1 : 8 * (n : Int) < (j : Int) := by have := hfu; unfold fuelOf at this; omega
          clear hfu Hr Ho
          go_wp2_with fail
          go_ret3
          rw [E.out]
          exact ⟨Hw.out, rfl⟩
        · have hj1 : (500 : Int) < (j : Int) := by have := hfu; unfold fuelOf at this; omega
          clear hfu Hr Ho
          go_wp2_with fail
          go_ret3
          rw [E.out]
          exact ⟨Hw.out, rfl⟩
      · have hjm : j ≤ 500 ∧ j ≤ 8 * n := by have := Hr.out.hj; unfold fuelOf at this hfu; omega
        obtain ⟨f, hf⟩ : ∃ f, fuelOf n - j = f + 1 := ⟨fuelOf n - j - 1, by have := Hr.out.hj; omega⟩
        have hrun := Hr.out.run
        rw [hf, runS_succ hlt] at hrun
        have hkn := Hk.out l[k] (List.getElem_mem _)
        have hjb := Hjb.out l[k] (List.getElem_mem _)
        obtain ⟨g, og, da, dc, ha, k0, k1, k2, k3, hsd, -, -, -⟩ := call_at Hl.out Hr.out.st.fr k hlt
        subst ha
        generalize l[k] = c' at *
        obtain ⟨M, hM⟩ : ∃ M : Nat, (if 8 * (n : Int) < 500 then 8 * (n : Int) else 500) = (M : Int) := ⟨min (8 * n) 500, by split <;> omega⟩
        have hcond : ¬ ((M : Int) < (j : Int)) := by rw [← hM]; split <;> omega
        have HS1 : Hid (StR w x rv mv (w.heap.size + 1) (wr.alloc (.cells #[vi c'.op, vi c'.a, vi c'.b, .slice da c'.data.length dc] 48)) s) := Hr.out.st.call ((Fr.refl _ _).alloc _)
        have hob : (wr.alloc (.cells #[vi c'.op, vi c'.a, vi c'.b, .slice da c'.data.length dc] 48)).heap[wr.heap.size]? = some (.cells #[vi c'.op, vi c'.a, vi c'.b, .slice da c'.data.length dc] 48 (0, 0)) := blk_new _ _
        have Hob := Lib.hid hob
        have Hf := Lib.hid hf
        have Hrun := Lib.hid hrun
        have Hkn := Lib.hid hkn
        have Hjb' := Lib.hid hjb
        have Hsd := Lib.hid hsd
        have L1 := Hr.out.l1
        have L2 := Hr.out.l2
        clear hf hrun hkn hjb hsd hob hfu Ho
        by_cases hA : s.loc.isSome = true ∧ (c'.op = 40 ∨ c'.op = 47)
        · obtain ⟨lg, c7⟩ := loc_some HS1.out hA.1
          have Hstep : Hid (stepS x c' (k + 1) s = (((k + 1 : Nat) : Int), s.mkLeft)) := by show _ = _; unfold stepS; rw [if_pos hA]
          have e : o = .left := by have h := Hrun.out; rw [Hstep.out] at h; simpa [LSt.mkLeft] using h.symm
          have E := Lib.hid e
          obtain ⟨kv, pv, lv, qs, hv⟩ := HS1.out
          have c8 : (wr.alloc (.cells #[vi c'.op, vi c'.a, vi c'.b, .slice da c'.data.length dc] 48)).cell? ⟨w.heap.size + 1, 8, none⟩ = some (.bool s.left) := hv.cell 8
          have f8 := hv.free 8
          have HV := Lib.hid hv.leftV.1
          have c8' := hv.leftV.1.cell 8
          have c8a : ((wr.alloc (.cells #[vi c'.op, vi c'.a, vi c'.b, .slice da c'.data.length dc] 48)).setCell ⟨w.heap.size + 1, 8, none⟩ (.bool true)).cell? ⟨w.heap.size + 1, 8, none⟩ = some (.bool true) := c8'
          have hop := hA.2
          clear hv hA e c8'
          rcases hop with hop | hop
          · have q1 : (c'.op == 40) = true := by simpa using hop
            clear hop
            go_wp2_with fail
            go_ret3
            rw [E.out]
            exact ⟨HV.out.fr, rfl⟩
          · have q1 : (c'.op == 40) = false := by rw [hop]; decide
            have q2 : (c'.op == 47) = true := by simpa using hop
            clear hop
            go_wp2_with fail
            go_ret3
            rw [E.out]
            exact ⟨HV.out.fr, rfl⟩
        have hB : (wr.alloc (.cells #[vi c'.op, vi c'.a, vi c'.b, .slice da c'.data.length dc] 48)).cell? ⟨w.heap.size + 1, 7, none⟩ = some (.pointer none) ∨
            ((∃ lg, (wr.alloc (.cells #[vi c'.op, vi c'.a, vi c'.b, .slice da c'.data.length dc] 48)).cell? ⟨w.heap.size + 1, 7, none⟩ = some (.pointer (some ⟨lg, 0, none⟩))) ∧ (c'.op == 40) = false ∧ (c'.op == 47) = false) := by
          cases hl : s.loc with
          | none => exact .inl (loc_none HS1.out hl)
          | some p =>
            have h1 : s.loc.isSome = true := by rw [hl]; rfl
            exact .inr ⟨loc_some HS1.out h1, eqf (fun e => hA ⟨h1, .inl e⟩), eqf (fun e => hA ⟨h1, .inr e⟩)⟩
        cases hJ : (jumpS c' s).2.1
        · have h47 : c'.op ≠ 47 := by intro e; simp [jumpS, e] at hJ
          have Hstep : Hid (stepS x c' (k + 1) s = (((k + 1 : Nat) : Int), doS x c' (jumpS c' s).2.2)) := by show _ = _; unfold stepS; rw [if_neg hA, hJ]; rfl
          have HJ := Lib.hid hJ
          have H47 := Lib.hid h47
          have jl := jumpS_len c' s
          have Hjl := Lib.hid jl
          clear hA hJ h47 jl
          rcases hB with c7 | ⟨⟨lg, c7⟩, q1, q2⟩
          all_goals
            go_upto_region 16 with (first | (go_at_call 56; go_must (refine (do_any w x rv mv (w.heap.size + 1) _ _ c' (.slice da c'.data.length dc) HSj.out (by have := Hjl.out.1; omega) (by rw [Hjl.out.2]; omega) Hkn.out Hsd.out H47.out).mono ?_); rintro e w2 ⟨rfl, hs1, hf1⟩; have HS2 := Lib.hid hs1; clear hs1 hf1) | (go_at_call 55; go_must (refine (jump_any w x rv mv (w.heap.size + 1) _ s c' (.slice da c'.data.length dc) HS1.out).mono ?_); rw [HJ.out]; rintro e w1 ⟨rfl, hs1, hf1⟩; have HSj := Lib.hid hs1; have hob1 := hf1.get Hob.out (by decide); have d0 : w1.cell? ⟨wr.heap.size, 0, none⟩ = some (vi c'.op) := blk_cell hob1 0; have d1 : w1.cell? ⟨wr.heap.size, 1, none⟩ = some (vi c'.a) := blk_cell hob1 1; have d2 : w1.cell? ⟨wr.heap.size, 2, none⟩ = some (vi c'.b) := blk_cell hob1 2; have d3 : w1.cell? ⟨wr.heap.size, 3, none⟩ = some (.slice da c'.data.length dc) := blk_cell hob1 3; clear hs1 hf1 hob1))
            cases hL : (doS x c' (jumpS c' s).2.2).left
            · cases hB : (doS x c' (jumpS c' s).2.2).bad
              · have c8 : w2.cell? ⟨w.heap.size + 1, 8, none⟩ = some (.bool false) := by obtain ⟨kv, pv, lv, qs, hv⟩ := HS2.out; rw [← hL]; exact hv.cell 8
                have c9 : w2.cell? ⟨w.heap.size + 1, 9, none⟩ = some (.bool false) := by obtain ⟨kv, pv, lv, qs, hv⟩ := HS2.out; rw [← hB]; exact hv.cell 9
                have hrun' : runS x l f (k + 1) (doS x c' (jumpS c' s).2.2) = o := by have h := Hrun.out; rw [Hstep.out] at h; simp only [hL, hB] at h; simpa using h
                have Hrun' := Lib.hid hrun'
                have HL := Lib.hid hL
                have HB := Lib.hid hB
                clear hL hB hrun'
                go_wp2_with fail
                refine ⟨⟨(k + 1), j + 1, doS x c' (jumpS c' s).2.2, by go_num, by go_num, by omega, by have := Hf.out; have := Hr.out.hj; omega, by rw [show fuelOf n - (j + 1) = f by have := Hf.out; omega]; exact Hrun'.out, HS2.out, ?_, ?_, HL.out, HB.out⟩, by have := Hf.out; simp [intOf]; omega⟩
                · have h1 := (stepS_len x c' (k + 1) s).1; rw [Hstep.out] at h1; have := Hr.out.l1; simp only at h1; omega
                · have h1 := (stepS_len x c' (k + 1) s).2; rw [Hstep.out] at h1; have := Hr.out.l2; simp only at h1; omega
              · have c8 : w2.cell? ⟨w.heap.size + 1, 8, none⟩ = some (.bool false) := by obtain ⟨kv, pv, lv, qs, hv⟩ := HS2.out; rw [← hL]; exact hv.cell 8
                have c9 : w2.cell? ⟨w.heap.size + 1, 9, none⟩ = some (.bool true) := by obtain ⟨kv, pv, lv, qs, hv⟩ := HS2.out; rw [← hB]; exact hv.cell 9
                have e : o = .bad := by have h := Hrun.out; rw [Hstep.out] at h; simp only [hL, hB] at h; simpa using h.symm
                have E := Lib.hid e
                clear hL hB e
                go_wp2_with fail
                go_ret3
                rw [E.out]
                exact ⟨HS2.out.fr, rfl⟩
            · have c8 : w2.cell? ⟨w.heap.size + 1, 8, none⟩ = some (.bool true) := by obtain ⟨kv, pv, lv, qs, hv⟩ := HS2.out; rw [← hL]; exact hv.cell 8
              have e : o = .left := by have h := Hrun.out; rw [Hstep.out] at h; simp only [hL] at h; simpa using h.symm
              have E := Lib.hid e
              clear hL e
              go_wp2_with fail
              go_ret3
              rw [E.out]
              exact ⟨HS2.out.fr, rfl⟩
        · have hto := jumpS_to hJ
          have Hstep : Hid (stepS x c' (k + 1) s = (c'.a, (jumpS c' s).2.2)) := by show _ = _; unfold stepS; rw [if_neg hA, if_pos hJ, hto.1]
          have hib := Hjb'.out hto.2
          have HJ := Lib.hid hJ
          have Hto := Lib.hid hto.1
          have jl := jumpS_len c' s
          have Hjl := Lib.hid jl
          obtain ⟨k', hk'⟩ : ∃ k' : Nat, c'.a = k' := ⟨c'.a.toNat, by omega⟩
          have hkl : k' ≤ l.length := by omega
          have Hk' := Lib.hid hk'
          have Hkt : Hid (c'.a.toNat = k') := by show _ = _; omega
          clear hA hJ jl hto hib hk'
          rcases hB with c7 | ⟨⟨lg, c7⟩, q1, q2⟩
          all_goals
            go_upto_region 16 with (go_at_call 55; go_must (refine (jump_any w x rv mv (w.heap.size + 1) _ s c' (.slice da c'.data.length dc) HS1.out).mono ?_); rw [HJ.out, Hto.out, Hk'.out]; rintro e w2 ⟨rfl, hs1, hf1⟩; have HS2 := Lib.hid hs1; clear hs1 hf1)
            cases hL : ((jumpS c' s).2.2).left
            · cases hB : ((jumpS c' s).2.2).bad
              · have c8 : w2.cell? ⟨w.heap.size + 1, 8, none⟩ = some (.bool false) := by obtain ⟨kv, pv, lv, qs, hv⟩ := HS2.out; rw [← hL]; exact hv.cell 8
                have c9 : w2.cell? ⟨w.heap.size + 1, 9, none⟩ = some (.bool false) := by obtain ⟨kv, pv, lv, qs, hv⟩ := HS2.out; rw [← hB]; exact hv.cell 9
                have hrun' : runS x l f k' ((jumpS c' s).2.2) = o := by have h := Hrun.out; rw [Hstep.out] at h; simp only [hL, hB, Hkt.out] at h; simpa using h
                have Hrun' := Lib.hid hrun'
                have HL := Lib.hid hL
                have HB := Lib.hid hB
                clear hL hB hrun'
                go_wp2_with fail
                refine ⟨⟨k', j + 1, (jumpS c' s).2.2, rfl, by go_num, hkl, by have := Hf.out; have := Hr.out.hj; omega, by rw [show fuelOf n - (j + 1) = f by have := Hf.out; omega]; exact Hrun'.out, HS2.out, ?_, ?_, HL.out, HB.out⟩, by have := Hf.out; simp [intOf]; omega⟩
                · have h1 := (stepS_len x c' (k + 1) s).1; rw [Hstep.out] at h1; have := Hr.out.l1; simp only at h1; omega
                · have h1 := (stepS_len x c' (k + 1) s).2; rw [Hstep.out] at h1; have := Hr.out.l2; simp only at h1; omega
              · have c8 : w2.cell? ⟨w.heap.size + 1, 8, none⟩ = some (.bool false) := by obtain ⟨kv, pv, lv, qs, hv⟩ := HS2.out; rw [← hL]; exact hv.cell 8
                have c9 : w2.cell? ⟨w.heap.size + 1, 9, none⟩ = some (.bool true) := by obtain ⟨kv, pv, lv, qs, hv⟩ := HS2.out; rw [← hB]; exact hv.cell 9
                have e : o = .bad := by have h := Hrun.out; rw [Hstep.out] at h; simp only [hL, hB] at h; simpa using h.symm
                have E := Lib.hid e
                clear hL hB e
                go_wp2_with fail
                go_ret3
                rw [E.out]
                exact ⟨HS2.out.fr, rfl⟩
            · have c8 : w2.cell? ⟨w.heap.size + 1, 8, none⟩ = some (.bool true) := by obtain ⟨kv, pv, lv, qs, hv⟩ := HS2.out; rw [← hL]; exact hv.cell 8
              have e : o = .left := by have h := Hrun.out; rw [Hstep.out] at h; simp only [hL] at h; simpa using h.symm
              have E := Lib.hid e
              clear hL e
              go_wp2_with fail
              go_ret3
              rw [E.out]
              exact ⟨HS2.out.fr, rfl⟩
    · have hk : k = l.length := by have := Hr.out.hk; omega
      subst hk
      clear hlt
      have ho : finishS s = o := by have := Hr.out.run; rwa [runS_end (by omega)] at this
      obtain ⟨kv, pv, lv, qs, hv⟩ := Hr.out.st
      obtain ⟨pa, pc, rfl⟩ := own_slice hv.pcs
      obtain ⟨ka, kc, rfl⟩ := own_slice hv.own
      have c5 : wr.cell? ⟨w.heap.size + 1, 5, none⟩ = some (.slice ka s.stack.length kc) := hv.cell 5
      have c6 : wr.cell? ⟨w.heap.size + 1, 6, none⟩ = some (.slice pa s.pieces.length pc) := hv.cell 6
      have c7 : wr.cell? ⟨w.heap.size + 1, 7, none⟩ = some lv := hv.cell 7
      by_cases hp : s.pieces = []
      · have hp0 : s.pieces.length = 0 := by rw [hp]; rfl
        rw [hp0] at c6
        have hloc := hv.loc
        cases hloc' : s.loc with
        | some p =>
          rw [hloc'] at hloc
          have e : o = .fine s := by rw [← ho]; simp [finishS, hp, hloc']
          have er : resP s = [p] := by simp [resP, hp, hloc']
          cases hloc with
          | some g bv p hg hgW hbv =>
          obtain ⟨ba, bc, rfl⟩ := hbv.form
          have g0 : wr.cell? ⟨g, 0, none⟩ = some (vi p.kind) := blk_cell hg 0
          have g1 : wr.cell? ⟨g, 1, none⟩ = some (vi p.value) := blk_cell hg 1
          have g2 : wr.cell? ⟨g, 2, none⟩ = some (vi p.size) := blk_cell hg 2
          have g3 : wr.cell? ⟨g, 3, none⟩ = some (.slice ba p.bytes.length bc) := blk_cell hg 3
          have g4 : wr.cell? ⟨g, 4, none⟩ = some (.bool p.stk) := blk_cell hg 4
          have Hv := Lib.hid hv
          have Hb := Lib.hid (hbv.sl hv.fr)
          have E := Lib.hid e
          have Er := Lib.hid er
          clear hv hg hbv hp hp0 ho hloc' e er Ho Hr
          go_wp2_with fail
          go_region_law (fail)
          all_goals
            go_wp2_with fail
            go_ret3
            rw [E.out]
            refine ⟨(Hv.out.fr.alloc _).drew, 0, _, rfl, ?_, ?_⟩
            · rw [Er.out]
              exact rsl_one (bv := .slice ba p.bytes.length bc) (by first | exact blk_new _ _ | exact (Fr.refl [] _).drew.get (blk_new _ _) (by simp)) (Hb.out.fr (((Fr.refl [] _).alloc _).drew) (by simp))
            · intro h; rw [Er.out] at h; cases h
        | none =>
          rw [hloc'] at hloc
          cases hloc
          by_cases hk0 : s.stack = []
          · have e : o = .left := by rw [← ho]; simp [finishS, hp, hloc', hk0]
            have hk1 : s.stack.length = 0 := by rw [hk0]; rfl
            rw [hk1] at c5
            have Hv := Lib.hid hv
            have E := Lib.hid e
            clear hv hp hp0 ho hloc' e Ho Hr hk0 hk1
            go_wp2_with fail
            go_ret3
            rw [E.out]
            exact ⟨Hv.out.fr, rfl⟩
          · have e : o = .fine s := by rw [← ho]; simp [finishS, hp, hloc', hk0]
            have er : resP s = [] := by simp [resP, hp, hloc']
            have hpos : 0 < s.stack.length := List.length_pos_iff.2 hk0
            obtain ⟨g, kc', hkv, hkc, hkm, hc⟩ := own_vis hv.own hpos
            simp only [Value.slice.injEq] at hkv
            obtain ⟨rfl, -, rfl⟩ := hkv
            have cx := hc (s.stack.length - 1) (by omega)
            have eg : s.stack.getLast? = some (s.stack[s.stack.length - 1]'(by omega)) := by rw [List.getLast?_eq_getElem?, List.getElem?_eq_getElem]
            obtain ⟨m, hm⟩ : ∃ m, s.stack.length = m + 1 := ⟨s.stack.length - 1, by omega⟩
            generalize s.stack[s.stack.length - 1]'(by omega) = y at *
            rw [hm] at c5 cx hkc
            simp only [Nat.add_sub_cancel] at cx
            unfold maxLen at hkm
            have Hv := Lib.hid hv
            have E := Lib.hid e
            have Er := Lib.hid er
            have Eg := Lib.hid eg
            clear hv hp hp0 ho hloc' e er eg Ho Hr hk0 hc hm hpos
            go_wp2_with fail
            go_quiet (fail)
            go_wp2_with fail
            go_ret3
            rw [E.out]
            refine ⟨Hv.out.fr.drewN _, y, _, rfl, ?_, fun _ => Eg.out⟩
            rw [Er.out]; exact .inl ⟨rfl, rfl⟩
      · have hpos : 0 < s.pieces.length := List.length_pos_iff.2 hp
        have hposi : (0 : Int) < (s.pieces.length : Int) := by omega
        have hloc := hv.loc
        cases hloc' : s.loc with
        | some p =>
          rw [hloc'] at hloc
          cases hloc with
          | some g bv p hg hgW hbv =>
          have e : o = .left := by rw [← ho]; simp [finishS, hp, hloc']
          have Hv := Lib.hid hv
          have E := Lib.hid e
          clear hv hp ho hloc' e Ho Hr hg hbv hpos
          go_wp2_with fail
          go_ret3
          rw [E.out]
          exact ⟨Hv.out.fr, rfl⟩
        | none =>
          rw [hloc'] at hloc
          cases hloc
          by_cases hk0 : s.stack = []
          · have e : o = .fine s := by rw [← ho]; simp [finishS, hp, hloc', hk0]
            have er : resP s = s.pieces := by simp [resP, hp]
            have hk1 : s.stack.length = 0 := by rw [hk0]; rfl
            rw [hk1] at c5
            have Hv := Lib.hid hv
            have E := Lib.hid e
            have Er := Lib.hid er
            have Hp := Lib.hid hp
            clear hv hp ho hloc' e er Ho Hr hk0 hk1 hpos
            go_wp2_with fail
            go_quiet (fail)
            go_wp2_with fail
            go_ret3
            rw [E.out]
            refine ⟨Hv.out.fr.drewN _, 0, _, rfl, ?_, fun h => absurd (Er.out.symm.trans h) Hp.out⟩
            rw [Er.out]
            have hv2 := Hv.out.call (w' := wr.drewN nq) ((Fr.refl _ _).drewN _)
            exact own_rsl hv2.pcs hv2.pq (fun q hq => (hv2.pb q hq).sl hv2.fr)
          · have e : o = .left := by rw [← ho]; simp [finishS, hp, hloc', hk0]
            have hk1 : (0 : Int) < (s.stack.length : Int) := by have := List.length_pos_iff.2 hk0; omega
            have Hv := Lib.hid hv
            have E := Lib.hid e
            clear hv hp ho hloc' e Ho Hr hk0 hpos
            go_wp2_with fail
            go_ret3
            rw [E.out]
            exact ⟨Hv.out.fr, rfl⟩
end Go.Proofs.Ytahohmdfllgedaa
