/- The reference's call: the frame address' rule. Printed by gen_gtc.py.
The reference's copy of a table.
The reference's call: a table is put aside.
The reference's call: the table put aside last comes back.
The reference's call: a table comes back; an operation that is none. Printed by gen_gtg.py.
The reference's call, whole. Printed by gen_gth.py.
spec.Rules: a place outside of the frame.
spec.Rules: behind its first loop. Printed by gen_grv.py. -/
import Derived.Test.YtahohmdfllgedaaGreatFa17
import Derived.Deep.Cut
import Derived.Deep.CutRange
import Derived.Deep.CutBlock
import Derived.Deep.RegionHeld3
import Derived.Test.YtahohmdfllgedaaGreatFa8
import Derived.Test.YtahohmdfllgedaaGreatFa1
import Derived.Test.YtahohmdfllgedaaGreatFa9
import Derived.Test.YtahohmdfllgedaaGreatFa7
import Derived.Test.YtahohmdfllgedaaGreatFa16
set_option linter.unusedVariables false
set_option linter.unusedSimpArgs false
namespace Go.Proofs.YtahohmdfllgedaaGreat
open Go.RowKit


set_option maxRecDepth 100000 in
set_option maxHeartbeats 4000000 in
theorem tc_12 {W w : World} {tb mb kb : Nat} {ev kv : Value} {qs : List SQ} {s : LSta} (h : TS W w tb mb ev kb kv qs s) (c : LCommon) (cv fv : Value) (a b : Int) (dt : List UInt8) (da : Option Addr) (dc dn : Nat)  :
    Calls Tryz.prog 31 #[.pointer (some ⟨tb, 0, none⟩), commonV c cv fv, callV 12 a b (.slice da dn dc), .pointer (some ⟨kb, 0, none⟩)] w (TOut W tb kb (some (s.1.setCfa ⟨7, a, b, []⟩, s.2)) w) := by
  have H := Lib.hid h
  obtain ⟨w1, hw1⟩ : ∃ w1, (w.alloc (.cells #[.int .i64 c.version, .int .u64 (c.code : Int), .int .i64 c.offset, .int .i64 c.ret, cv, fv] 36)).alloc (.cells #[.int .i64 12, .int .i64 a, .int .i64 b, .slice da dn dc] 53) = w1 := ⟨_, rfl⟩
  have F1 : Hid (Fr [] w w1) := by rw [← hw1]; exact ((Fr.refl _ _).alloc _).alloc _
  have B0 : Hid (w1.heap[w.heap.size]? = some (.cells #[.int .i64 c.version, .int .u64 (c.code : Int), .int .i64 c.offset, .int .i64 c.ret, cv, fv] 36 (0, 0))) := by rw [← hw1]; exact blk_alloc (blk_new w _)
  have B1 : Hid (w1.heap[w.heap.size + 1]? = some (.cells #[.int .i64 12, .int .i64 a, .int .i64 b, .slice da dn dc] 53 (0, 0))) := by
    have h := blk_new (w.alloc (.cells #[.int .i64 c.version, .int .u64 (c.code : Int), .int .i64 c.offset, .int .i64 c.ret, cv, fv] 36)) (.cells #[.int .i64 12, .int .i64 a, .int .i64 b, .slice da dn dc] 53)
    rw [World.size_alloc, hw1] at h; exact h
  have H1 := Lib.hid (h.idle F1.out)
  have o2 : w1.cell? ⟨w.heap.size, 2, none⟩ = some (.int .i64 c.offset) := by rw [blk_cell B0.out]; rfl
  have x0 : w1.cell? ⟨w.heap.size + 1, 0, none⟩ = some (.int .i64 12) := by rw [blk_cell B1.out]; rfl
  have x1 : w1.cell? ⟨w.heap.size + 1, 1, none⟩ = some (.int .i64 a) := by rw [blk_cell B1.out]; rfl
  have x2 : w1.cell? ⟨w.heap.size + 1, 2, none⟩ = some (.int .i64 b) := by rw [blk_cell B1.out]; rfl
  have x3 : w1.cell? ⟨w.heap.size + 1, 3, none⟩ = some (.slice da dn dc) := by rw [blk_cell B1.out]; rfl
  have NE0 : Hid (w.heap.size ≠ mb) := H1.out.mp.ne B0.out
  have NE1 : Hid (w.heap.size + 1 ≠ mb) := H1.out.mp.ne B1.out
  have NE2 : Hid (tb ≠ mb) := H1.out.mp.ne H1.out.ht
  unfold commonV callV
  clear h
  go_enter Tryz.func31, Tryz.ntmps31
  go_upto_region 2 with fail
  clear hw1
  have z0 : w1.frozen? ⟨tb, 0, none⟩ = false := H1.out.free 0
  have y0 : w1.cell? ⟨tb, 0, none⟩ = some (.int .i64 s.1.cfa.kind) := H1.out.cell 0
  have z1 : w1.frozen? ⟨tb, 1, none⟩ = false := H1.out.free 1
  have y1 : w1.cell? ⟨tb, 1, none⟩ = some (.int .i64 s.1.cfa.reg) := H1.out.cell 1
  have z2 : w1.frozen? ⟨tb, 2, none⟩ = false := H1.out.free 2
  have y2 : w1.cell? ⟨tb, 2, none⟩ = some (.int .i64 s.1.cfa.n) := H1.out.cell 2
  have z3 : w1.frozen? ⟨tb, 3, none⟩ = false := H1.out.free 3
  have y3 : w1.cell? ⟨tb, 3, none⟩ = some (ev) := H1.out.cell 3
  have HZ := Lib.hid ((((H1.out.setCfa 0 (.int .i64 7) (c := ⟨7, s.1.cfa.reg, s.1.cfa.n, s.1.cfa.expr⟩) (ev' := ev) (by rfl) H1.out.cf).setCfa 1 (.int .i64 a) (c := ⟨7, a, s.1.cfa.n, s.1.cfa.expr⟩) (ev' := ev) (by rfl) H1.out.cf).setCfa 2 (.int .i64 b) (c := ⟨7, a, b, s.1.cfa.expr⟩) (ev' := ev) (by rfl) H1.out.cf).setCfa 3 ((.slice none 0 0)) (c := ⟨7, a, b, []⟩) (ev' := (.slice none 0 0)) (by rfl) (.inl ⟨rfl, rfl⟩))
  go_wp2_with fail
  go_ret
  exact ⟨rfl, mb, (.slice none 0 0), kv, qs, HZ.out⟩

set_option maxRecDepth 100000 in
set_option maxHeartbeats 4000000 in
theorem tc_18 {W w : World} {tb mb kb : Nat} {ev kv : Value} {qs : List SQ} {s : LSta} (h : TS W w tb mb ev kb kv qs s) (c : LCommon) (cv fv : Value) (a b : Int) (dt : List UInt8) (da : Option Addr) (dc dn : Nat) (hw : IntKind.i64.wrap (b * c.offset) = b * c.offset) :
    Calls Tryz.prog 31 #[.pointer (some ⟨tb, 0, none⟩), commonV c cv fv, callV 18 a b (.slice da dn dc), .pointer (some ⟨kb, 0, none⟩)] w (TOut W tb kb (some (s.1.setCfa ⟨7, a, b * c.offset, []⟩, s.2)) w) := by
  have H := Lib.hid h
  obtain ⟨w1, hw1⟩ : ∃ w1, (w.alloc (.cells #[.int .i64 c.version, .int .u64 (c.code : Int), .int .i64 c.offset, .int .i64 c.ret, cv, fv] 36)).alloc (.cells #[.int .i64 18, .int .i64 a, .int .i64 b, .slice da dn dc] 53) = w1 := ⟨_, rfl⟩
  have F1 : Hid (Fr [] w w1) := by rw [← hw1]; exact ((Fr.refl _ _).alloc _).alloc _
  have B0 : Hid (w1.heap[w.heap.size]? = some (.cells #[.int .i64 c.version, .int .u64 (c.code : Int), .int .i64 c.offset, .int .i64 c.ret, cv, fv] 36 (0, 0))) := by rw [← hw1]; exact blk_alloc (blk_new w _)
  have B1 : Hid (w1.heap[w.heap.size + 1]? = some (.cells #[.int .i64 18, .int .i64 a, .int .i64 b, .slice da dn dc] 53 (0, 0))) := by
    have h := blk_new (w.alloc (.cells #[.int .i64 c.version, .int .u64 (c.code : Int), .int .i64 c.offset, .int .i64 c.ret, cv, fv] 36)) (.cells #[.int .i64 18, .int .i64 a, .int .i64 b, .slice da dn dc] 53)
    rw [World.size_alloc, hw1] at h; exact h
  have H1 := Lib.hid (h.idle F1.out)
  have o2 : w1.cell? ⟨w.heap.size, 2, none⟩ = some (.int .i64 c.offset) := by rw [blk_cell B0.out]; rfl
  have x0 : w1.cell? ⟨w.heap.size + 1, 0, none⟩ = some (.int .i64 18) := by rw [blk_cell B1.out]; rfl
  have x1 : w1.cell? ⟨w.heap.size + 1, 1, none⟩ = some (.int .i64 a) := by rw [blk_cell B1.out]; rfl
  have x2 : w1.cell? ⟨w.heap.size + 1, 2, none⟩ = some (.int .i64 b) := by rw [blk_cell B1.out]; rfl
  have x3 : w1.cell? ⟨w.heap.size + 1, 3, none⟩ = some (.slice da dn dc) := by rw [blk_cell B1.out]; rfl
  obtain ⟨p, hpe⟩ : ∃ p, b * c.offset = p := ⟨_, rfl⟩
  rw [hpe] at hw
  have e2 : IntKind.i64.wrap (b * c.offset) = p := by rw [hpe]; exact hw
  have HPE := Lib.hid hpe
  clear hpe hw
  have NE0 : Hid (w.heap.size ≠ mb) := H1.out.mp.ne B0.out
  have NE1 : Hid (w.heap.size + 1 ≠ mb) := H1.out.mp.ne B1.out
  have NE2 : Hid (tb ≠ mb) := H1.out.mp.ne H1.out.ht
  unfold commonV callV
  clear h
  go_enter Tryz.func31, Tryz.ntmps31
  go_upto_region 2 with fail
  clear hw1
  have z0 : w1.frozen? ⟨tb, 0, none⟩ = false := H1.out.free 0
  have y0 : w1.cell? ⟨tb, 0, none⟩ = some (.int .i64 s.1.cfa.kind) := H1.out.cell 0
  have z1 : w1.frozen? ⟨tb, 1, none⟩ = false := H1.out.free 1
  have y1 : w1.cell? ⟨tb, 1, none⟩ = some (.int .i64 s.1.cfa.reg) := H1.out.cell 1
  have z2 : w1.frozen? ⟨tb, 2, none⟩ = false := H1.out.free 2
  have y2 : w1.cell? ⟨tb, 2, none⟩ = some (.int .i64 s.1.cfa.n) := H1.out.cell 2
  have z3 : w1.frozen? ⟨tb, 3, none⟩ = false := H1.out.free 3
  have y3 : w1.cell? ⟨tb, 3, none⟩ = some (ev) := H1.out.cell 3
  have HZ := Lib.hid ((((H1.out.setCfa 0 (.int .i64 7) (c := ⟨7, s.1.cfa.reg, s.1.cfa.n, s.1.cfa.expr⟩) (ev' := ev) (by rfl) H1.out.cf).setCfa 1 (.int .i64 a) (c := ⟨7, a, s.1.cfa.n, s.1.cfa.expr⟩) (ev' := ev) (by rfl) H1.out.cf).setCfa 2 (.int .i64 p) (c := ⟨7, a, p, s.1.cfa.expr⟩) (ev' := ev) (by rfl) H1.out.cf).setCfa 3 ((.slice none 0 0)) (c := ⟨7, a, p, []⟩) (ev' := (.slice none 0 0)) (by rfl) (.inl ⟨rfl, rfl⟩))
  go_wp2_with fail
  go_ret
  exact ⟨rfl, mb, (.slice none 0 0), kv, qs, by rw [HPE.out]; exact HZ.out⟩

set_option maxRecDepth 100000 in
set_option maxHeartbeats 4000000 in
theorem tc_15 {W w : World} {tb mb kb : Nat} {ev kv : Value} {qs : List SQ} {s : LSta} (h : TS W w tb mb ev kb kv qs s) (c : LCommon) (cv fv : Value) (a b : Int) (dt : List UInt8) (da : Option Addr) (dc dn : Nat) (hd : Sl W (.slice da dn dc) (vbs dt)) :
    Calls Tryz.prog 31 #[.pointer (some ⟨tb, 0, none⟩), commonV c cv fv, callV 15 a b (.slice da dn dc), .pointer (some ⟨kb, 0, none⟩)] w (TOut W tb kb (some (s.1.setCfa ⟨5, 0, 0, dt⟩, s.2)) w) := by
  have H := Lib.hid h
  obtain ⟨w1, hw1⟩ : ∃ w1, (w.alloc (.cells #[.int .i64 c.version, .int .u64 (c.code : Int), .int .i64 c.offset, .int .i64 c.ret, cv, fv] 36)).alloc (.cells #[.int .i64 15, .int .i64 a, .int .i64 b, .slice da dn dc] 53) = w1 := ⟨_, rfl⟩
  have F1 : Hid (Fr [] w w1) := by rw [← hw1]; exact ((Fr.refl _ _).alloc _).alloc _
  have B0 : Hid (w1.heap[w.heap.size]? = some (.cells #[.int .i64 c.version, .int .u64 (c.code : Int), .int .i64 c.offset, .int .i64 c.ret, cv, fv] 36 (0, 0))) := by rw [← hw1]; exact blk_alloc (blk_new w _)
  have B1 : Hid (w1.heap[w.heap.size + 1]? = some (.cells #[.int .i64 15, .int .i64 a, .int .i64 b, .slice da dn dc] 53 (0, 0))) := by
    have h := blk_new (w.alloc (.cells #[.int .i64 c.version, .int .u64 (c.code : Int), .int .i64 c.offset, .int .i64 c.ret, cv, fv] 36)) (.cells #[.int .i64 15, .int .i64 a, .int .i64 b, .slice da dn dc] 53)
    rw [World.size_alloc, hw1] at h; exact h
  have H1 := Lib.hid (h.idle F1.out)
  have o2 : w1.cell? ⟨w.heap.size, 2, none⟩ = some (.int .i64 c.offset) := by rw [blk_cell B0.out]; rfl
  have x0 : w1.cell? ⟨w.heap.size + 1, 0, none⟩ = some (.int .i64 15) := by rw [blk_cell B1.out]; rfl
  have x1 : w1.cell? ⟨w.heap.size + 1, 1, none⟩ = some (.int .i64 a) := by rw [blk_cell B1.out]; rfl
  have x2 : w1.cell? ⟨w.heap.size + 1, 2, none⟩ = some (.int .i64 b) := by rw [blk_cell B1.out]; rfl
  have x3 : w1.cell? ⟨w.heap.size + 1, 3, none⟩ = some (.slice da dn dc) := by rw [blk_cell B1.out]; rfl
  have NE0 : Hid (w.heap.size ≠ mb) := H1.out.mp.ne B0.out
  have NE1 : Hid (w.heap.size + 1 ≠ mb) := H1.out.mp.ne B1.out
  have NE2 : Hid (tb ≠ mb) := H1.out.mp.ne H1.out.ht
  unfold commonV callV
  clear h
  go_enter Tryz.func31, Tryz.ntmps31
  go_upto_region 2 with fail
  clear hw1
  have z0 : w1.frozen? ⟨tb, 0, none⟩ = false := H1.out.free 0
  have y0 : w1.cell? ⟨tb, 0, none⟩ = some (.int .i64 s.1.cfa.kind) := H1.out.cell 0
  have z1 : w1.frozen? ⟨tb, 1, none⟩ = false := H1.out.free 1
  have y1 : w1.cell? ⟨tb, 1, none⟩ = some (.int .i64 s.1.cfa.reg) := H1.out.cell 1
  have z2 : w1.frozen? ⟨tb, 2, none⟩ = false := H1.out.free 2
  have y2 : w1.cell? ⟨tb, 2, none⟩ = some (.int .i64 s.1.cfa.n) := H1.out.cell 2
  have z3 : w1.frozen? ⟨tb, 3, none⟩ = false := H1.out.free 3
  have y3 : w1.cell? ⟨tb, 3, none⟩ = some (ev) := H1.out.cell 3
  have HZ := Lib.hid ((((H1.out.setCfa 0 (.int .i64 5) (c := ⟨5, s.1.cfa.reg, s.1.cfa.n, s.1.cfa.expr⟩) (ev' := ev) (by rfl) H1.out.cf).setCfa 1 (.int .i64 0) (c := ⟨5, 0, s.1.cfa.n, s.1.cfa.expr⟩) (ev' := ev) (by rfl) H1.out.cf).setCfa 2 (.int .i64 0) (c := ⟨5, 0, 0, s.1.cfa.expr⟩) (ev' := ev) (by rfl) H1.out.cf).setCfa 3 ((.slice da dn dc)) (c := ⟨5, 0, 0, dt⟩) (ev' := (.slice da dn dc)) (by rfl) hd)
  go_wp2_with fail
  go_ret
  exact ⟨rfl, mb, (.slice da dn dc), kv, qs, HZ.out⟩

set_option maxRecDepth 100000 in
set_option maxHeartbeats 4000000 in
theorem tc_13 {W w : World} {tb mb kb : Nat} {ev kv : Value} {qs : List SQ} {s : LSta} (h : TS W w tb mb ev kb kv qs s) (c : LCommon) (cv fv : Value) (a b : Int) (dt : List UInt8) (da : Option Addr) (dc dn : Nat) (h7 : s.1.cfa.kind = 7) :
    Calls Tryz.prog 31 #[.pointer (some ⟨tb, 0, none⟩), commonV c cv fv, callV 13 a b (.slice da dn dc), .pointer (some ⟨kb, 0, none⟩)] w (TOut W tb kb (some (s.1.setCfa { s.1.cfa with reg := a }, s.2)) w) := by
  have H := Lib.hid h
  obtain ⟨w1, hw1⟩ : ∃ w1, (w.alloc (.cells #[.int .i64 c.version, .int .u64 (c.code : Int), .int .i64 c.offset, .int .i64 c.ret, cv, fv] 36)).alloc (.cells #[.int .i64 13, .int .i64 a, .int .i64 b, .slice da dn dc] 53) = w1 := ⟨_, rfl⟩
  have F1 : Hid (Fr [] w w1) := by rw [← hw1]; exact ((Fr.refl _ _).alloc _).alloc _
  have B0 : Hid (w1.heap[w.heap.size]? = some (.cells #[.int .i64 c.version, .int .u64 (c.code : Int), .int .i64 c.offset, .int .i64 c.ret, cv, fv] 36 (0, 0))) := by rw [← hw1]; exact blk_alloc (blk_new w _)
  have B1 : Hid (w1.heap[w.heap.size + 1]? = some (.cells #[.int .i64 13, .int .i64 a, .int .i64 b, .slice da dn dc] 53 (0, 0))) := by
    have h := blk_new (w.alloc (.cells #[.int .i64 c.version, .int .u64 (c.code : Int), .int .i64 c.offset, .int .i64 c.ret, cv, fv] 36)) (.cells #[.int .i64 13, .int .i64 a, .int .i64 b, .slice da dn dc] 53)
    rw [World.size_alloc, hw1] at h; exact h
  have H1 := Lib.hid (h.idle F1.out)
  have o2 : w1.cell? ⟨w.heap.size, 2, none⟩ = some (.int .i64 c.offset) := by rw [blk_cell B0.out]; rfl
  have x0 : w1.cell? ⟨w.heap.size + 1, 0, none⟩ = some (.int .i64 13) := by rw [blk_cell B1.out]; rfl
  have x1 : w1.cell? ⟨w.heap.size + 1, 1, none⟩ = some (.int .i64 a) := by rw [blk_cell B1.out]; rfl
  have x2 : w1.cell? ⟨w.heap.size + 1, 2, none⟩ = some (.int .i64 b) := by rw [blk_cell B1.out]; rfl
  have x3 : w1.cell? ⟨w.heap.size + 1, 3, none⟩ = some (.slice da dn dc) := by rw [blk_cell B1.out]; rfl
  have k7 : w1.cell? ⟨tb, 0, none⟩ = some (.int .i64 7) := by rw [← h7]; exact H1.out.cell 0
  have NE0 : Hid (w.heap.size ≠ mb) := H1.out.mp.ne B0.out
  have NE1 : Hid (w.heap.size + 1 ≠ mb) := H1.out.mp.ne B1.out
  have NE2 : Hid (tb ≠ mb) := H1.out.mp.ne H1.out.ht
  unfold commonV callV
  clear h
  go_enter Tryz.func31, Tryz.ntmps31
  go_upto_region 2 with fail
  clear hw1
  have z1 : w1.frozen? ⟨tb, 1, none⟩ = false := H1.out.free 1
  have y1 : w1.cell? ⟨tb, 1, none⟩ = some (.int .i64 s.1.cfa.reg) := H1.out.cell 1
  have HZ := Lib.hid (H1.out.setCfa 1 (.int .i64 a) (c := ⟨s.1.cfa.kind, a, s.1.cfa.n, s.1.cfa.expr⟩) (ev' := ev) (by rfl) H1.out.cf)
  go_wp2_with fail
  go_ret
  exact ⟨rfl, mb, ev, kv, qs, HZ.out⟩

set_option maxRecDepth 100000 in
set_option maxHeartbeats 4000000 in
theorem tc_13_none {W w : World} {tb mb kb : Nat} {ev kv : Value} {qs : List SQ} {s : LSta} (h : TS W w tb mb ev kb kv qs s) (c : LCommon) (cv fv : Value) (a b : Int) (dt : List UInt8) (da : Option Addr) (dc dn : Nat) (h7 : ¬ s.1.cfa.kind = 7) :
    Calls Tryz.prog 31 #[.pointer (some ⟨tb, 0, none⟩), commonV c cv fv, callV 13 a b (.slice da dn dc), .pointer (some ⟨kb, 0, none⟩)] w (TOut W tb kb none w) := by
  have H := Lib.hid h
  obtain ⟨w1, hw1⟩ : ∃ w1, (w.alloc (.cells #[.int .i64 c.version, .int .u64 (c.code : Int), .int .i64 c.offset, .int .i64 c.ret, cv, fv] 36)).alloc (.cells #[.int .i64 13, .int .i64 a, .int .i64 b, .slice da dn dc] 53) = w1 := ⟨_, rfl⟩
  have F1 : Hid (Fr [] w w1) := by rw [← hw1]; exact ((Fr.refl _ _).alloc _).alloc _
  have B0 : Hid (w1.heap[w.heap.size]? = some (.cells #[.int .i64 c.version, .int .u64 (c.code : Int), .int .i64 c.offset, .int .i64 c.ret, cv, fv] 36 (0, 0))) := by rw [← hw1]; exact blk_alloc (blk_new w _)
  have B1 : Hid (w1.heap[w.heap.size + 1]? = some (.cells #[.int .i64 13, .int .i64 a, .int .i64 b, .slice da dn dc] 53 (0, 0))) := by
    have h := blk_new (w.alloc (.cells #[.int .i64 c.version, .int .u64 (c.code : Int), .int .i64 c.offset, .int .i64 c.ret, cv, fv] 36)) (.cells #[.int .i64 13, .int .i64 a, .int .i64 b, .slice da dn dc] 53)
    rw [World.size_alloc, hw1] at h; exact h
  have H1 := Lib.hid (h.idle F1.out)
  have o2 : w1.cell? ⟨w.heap.size, 2, none⟩ = some (.int .i64 c.offset) := by rw [blk_cell B0.out]; rfl
  have x0 : w1.cell? ⟨w.heap.size + 1, 0, none⟩ = some (.int .i64 13) := by rw [blk_cell B1.out]; rfl
  have x1 : w1.cell? ⟨w.heap.size + 1, 1, none⟩ = some (.int .i64 a) := by rw [blk_cell B1.out]; rfl
  have x2 : w1.cell? ⟨w.heap.size + 1, 2, none⟩ = some (.int .i64 b) := by rw [blk_cell B1.out]; rfl
  have x3 : w1.cell? ⟨w.heap.size + 1, 3, none⟩ = some (.slice da dn dc) := by rw [blk_cell B1.out]; rfl
  have k0 : w1.cell? ⟨tb, 0, none⟩ = some (.int .i64 s.1.cfa.kind) := H1.out.cell 0
  have k7 : (s.1.cfa.kind == 7) = false := by rw [beq_eq_false_iff_ne]; exact h7
  have NE0 : Hid (w.heap.size ≠ mb) := H1.out.mp.ne B0.out
  have NE1 : Hid (w.heap.size + 1 ≠ mb) := H1.out.mp.ne B1.out
  have NE2 : Hid (tb ≠ mb) := H1.out.mp.ne H1.out.ht
  unfold commonV callV
  clear h
  go_enter Tryz.func31, Tryz.ntmps31
  go_upto_region 2 with fail
  clear hw1
  go_wp2_with fail
  go_ret
  exact ⟨rfl, H1.out.fr⟩

set_option maxRecDepth 100000 in
set_option maxHeartbeats 4000000 in
theorem tc_14 {W w : World} {tb mb kb : Nat} {ev kv : Value} {qs : List SQ} {s : LSta} (h : TS W w tb mb ev kb kv qs s) (c : LCommon) (cv fv : Value) (a b : Int) (dt : List UInt8) (da : Option Addr) (dc dn : Nat) (h7 : s.1.cfa.kind = 7) :
    Calls Tryz.prog 31 #[.pointer (some ⟨tb, 0, none⟩), commonV c cv fv, callV 14 a b (.slice da dn dc), .pointer (some ⟨kb, 0, none⟩)] w (TOut W tb kb (some (s.1.setCfa { s.1.cfa with n := a }, s.2)) w) := by
  have H := Lib.hid h
  obtain ⟨w1, hw1⟩ : ∃ w1, (w.alloc (.cells #[.int .i64 c.version, .int .u64 (c.code : Int), .int .i64 c.offset, .int .i64 c.ret, cv, fv] 36)).alloc (.cells #[.int .i64 14, .int .i64 a, .int .i64 b, .slice da dn dc] 53) = w1 := ⟨_, rfl⟩
  have F1 : Hid (Fr [] w w1) := by rw [← hw1]; exact ((Fr.refl _ _).alloc _).alloc _
  have B0 : Hid (w1.heap[w.heap.size]? = some (.cells #[.int .i64 c.version, .int .u64 (c.code : Int), .int .i64 c.offset, .int .i64 c.ret, cv, fv] 36 (0, 0))) := by rw [← hw1]; exact blk_alloc (blk_new w _)
  have B1 : Hid (w1.heap[w.heap.size + 1]? = some (.cells #[.int .i64 14, .int .i64 a, .int .i64 b, .slice da dn dc] 53 (0, 0))) := by
    have h := blk_new (w.alloc (.cells #[.int .i64 c.version, .int .u64 (c.code : Int), .int .i64 c.offset, .int .i64 c.ret, cv, fv] 36)) (.cells #[.int .i64 14, .int .i64 a, .int .i64 b, .slice da dn dc] 53)
    rw [World.size_alloc, hw1] at h; exact h
  have H1 := Lib.hid (h.idle F1.out)
  have o2 : w1.cell? ⟨w.heap.size, 2, none⟩ = some (.int .i64 c.offset) := by rw [blk_cell B0.out]; rfl
  have x0 : w1.cell? ⟨w.heap.size + 1, 0, none⟩ = some (.int .i64 14) := by rw [blk_cell B1.out]; rfl
  have x1 : w1.cell? ⟨w.heap.size + 1, 1, none⟩ = some (.int .i64 a) := by rw [blk_cell B1.out]; rfl
  have x2 : w1.cell? ⟨w.heap.size + 1, 2, none⟩ = some (.int .i64 b) := by rw [blk_cell B1.out]; rfl
  have x3 : w1.cell? ⟨w.heap.size + 1, 3, none⟩ = some (.slice da dn dc) := by rw [blk_cell B1.out]; rfl
  have k7 : w1.cell? ⟨tb, 0, none⟩ = some (.int .i64 7) := by rw [← h7]; exact H1.out.cell 0
  have NE0 : Hid (w.heap.size ≠ mb) := H1.out.mp.ne B0.out
  have NE1 : Hid (w.heap.size + 1 ≠ mb) := H1.out.mp.ne B1.out
  have NE2 : Hid (tb ≠ mb) := H1.out.mp.ne H1.out.ht
  unfold commonV callV
  clear h
  go_enter Tryz.func31, Tryz.ntmps31
  go_upto_region 2 with fail
  clear hw1
  have z2 : w1.frozen? ⟨tb, 2, none⟩ = false := H1.out.free 2
  have y2 : w1.cell? ⟨tb, 2, none⟩ = some (.int .i64 s.1.cfa.n) := H1.out.cell 2
  have HZ := Lib.hid (H1.out.setCfa 2 (.int .i64 a) (c := ⟨s.1.cfa.kind, s.1.cfa.reg, a, s.1.cfa.expr⟩) (ev' := ev) (by rfl) H1.out.cf)
  go_wp2_with fail
  go_ret
  exact ⟨rfl, mb, ev, kv, qs, HZ.out⟩

set_option maxRecDepth 100000 in
set_option maxHeartbeats 4000000 in
theorem tc_14_none {W w : World} {tb mb kb : Nat} {ev kv : Value} {qs : List SQ} {s : LSta} (h : TS W w tb mb ev kb kv qs s) (c : LCommon) (cv fv : Value) (a b : Int) (dt : List UInt8) (da : Option Addr) (dc dn : Nat) (h7 : ¬ s.1.cfa.kind = 7) :
    Calls Tryz.prog 31 #[.pointer (some ⟨tb, 0, none⟩), commonV c cv fv, callV 14 a b (.slice da dn dc), .pointer (some ⟨kb, 0, none⟩)] w (TOut W tb kb none w) := by
  have H := Lib.hid h
  obtain ⟨w1, hw1⟩ : ∃ w1, (w.alloc (.cells #[.int .i64 c.version, .int .u64 (c.code : Int), .int .i64 c.offset, .int .i64 c.ret, cv, fv] 36)).alloc (.cells #[.int .i64 14, .int .i64 a, .int .i64 b, .slice da dn dc] 53) = w1 := ⟨_, rfl⟩
  have F1 : Hid (Fr [] w w1) := by rw [← hw1]; exact ((Fr.refl _ _).alloc _).alloc _
  have B0 : Hid (w1.heap[w.heap.size]? = some (.cells #[.int .i64 c.version, .int .u64 (c.code : Int), .int .i64 c.offset, .int .i64 c.ret, cv, fv] 36 (0, 0))) := by rw [← hw1]; exact blk_alloc (blk_new w _)
  have B1 : Hid (w1.heap[w.heap.size + 1]? = some (.cells #[.int .i64 14, .int .i64 a, .int .i64 b, .slice da dn dc] 53 (0, 0))) := by
    have h := blk_new (w.alloc (.cells #[.int .i64 c.version, .int .u64 (c.code : Int), .int .i64 c.offset, .int .i64 c.ret, cv, fv] 36)) (.cells #[.int .i64 14, .int .i64 a, .int .i64 b, .slice da dn dc] 53)
    rw [World.size_alloc, hw1] at h; exact h
  have H1 := Lib.hid (h.idle F1.out)
  have o2 : w1.cell? ⟨w.heap.size, 2, none⟩ = some (.int .i64 c.offset) := by rw [blk_cell B0.out]; rfl
  have x0 : w1.cell? ⟨w.heap.size + 1, 0, none⟩ = some (.int .i64 14) := by rw [blk_cell B1.out]; rfl
  have x1 : w1.cell? ⟨w.heap.size + 1, 1, none⟩ = some (.int .i64 a) := by rw [blk_cell B1.out]; rfl
  have x2 : w1.cell? ⟨w.heap.size + 1, 2, none⟩ = some (.int .i64 b) := by rw [blk_cell B1.out]; rfl
  have x3 : w1.cell? ⟨w.heap.size + 1, 3, none⟩ = some (.slice da dn dc) := by rw [blk_cell B1.out]; rfl
  have k0 : w1.cell? ⟨tb, 0, none⟩ = some (.int .i64 s.1.cfa.kind) := H1.out.cell 0
  have k7 : (s.1.cfa.kind == 7) = false := by rw [beq_eq_false_iff_ne]; exact h7
  have NE0 : Hid (w.heap.size ≠ mb) := H1.out.mp.ne B0.out
  have NE1 : Hid (w.heap.size + 1 ≠ mb) := H1.out.mp.ne B1.out
  have NE2 : Hid (tb ≠ mb) := H1.out.mp.ne H1.out.ht
  unfold commonV callV
  clear h
  go_enter Tryz.func31, Tryz.ntmps31
  go_upto_region 2 with fail
  clear hw1
  go_wp2_with fail
  go_ret
  exact ⟨rfl, H1.out.fr⟩

set_option maxRecDepth 100000 in
set_option maxHeartbeats 4000000 in
theorem tc_19 {W w : World} {tb mb kb : Nat} {ev kv : Value} {qs : List SQ} {s : LSta} (h : TS W w tb mb ev kb kv qs s) (c : LCommon) (cv fv : Value) (a b : Int) (dt : List UInt8) (da : Option Addr) (dc dn : Nat) (h7 : s.1.cfa.kind = 7) (hw : IntKind.i64.wrap (a * c.offset) = a * c.offset) :
    Calls Tryz.prog 31 #[.pointer (some ⟨tb, 0, none⟩), commonV c cv fv, callV 19 a b (.slice da dn dc), .pointer (some ⟨kb, 0, none⟩)] w (TOut W tb kb (some (s.1.setCfa { s.1.cfa with n := a * c.offset }, s.2)) w) := by
  have H := Lib.hid h
  obtain ⟨w1, hw1⟩ : ∃ w1, (w.alloc (.cells #[.int .i64 c.version, .int .u64 (c.code : Int), .int .i64 c.offset, .int .i64 c.ret, cv, fv] 36)).alloc (.cells #[.int .i64 19, .int .i64 a, .int .i64 b, .slice da dn dc] 53) = w1 := ⟨_, rfl⟩
  have F1 : Hid (Fr [] w w1) := by rw [← hw1]; exact ((Fr.refl _ _).alloc _).alloc _
  have B0 : Hid (w1.heap[w.heap.size]? = some (.cells #[.int .i64 c.version, .int .u64 (c.code : Int), .int .i64 c.offset, .int .i64 c.ret, cv, fv] 36 (0, 0))) := by rw [← hw1]; exact blk_alloc (blk_new w _)
  have B1 : Hid (w1.heap[w.heap.size + 1]? = some (.cells #[.int .i64 19, .int .i64 a, .int .i64 b, .slice da dn dc] 53 (0, 0))) := by
    have h := blk_new (w.alloc (.cells #[.int .i64 c.version, .int .u64 (c.code : Int), .int .i64 c.offset, .int .i64 c.ret, cv, fv] 36)) (.cells #[.int .i64 19, .int .i64 a, .int .i64 b, .slice da dn dc] 53)
    rw [World.size_alloc, hw1] at h; exact h
  have H1 := Lib.hid (h.idle F1.out)
  have o2 : w1.cell? ⟨w.heap.size, 2, none⟩ = some (.int .i64 c.offset) := by rw [blk_cell B0.out]; rfl
  have x0 : w1.cell? ⟨w.heap.size + 1, 0, none⟩ = some (.int .i64 19) := by rw [blk_cell B1.out]; rfl
  have x1 : w1.cell? ⟨w.heap.size + 1, 1, none⟩ = some (.int .i64 a) := by rw [blk_cell B1.out]; rfl
  have x2 : w1.cell? ⟨w.heap.size + 1, 2, none⟩ = some (.int .i64 b) := by rw [blk_cell B1.out]; rfl
  have x3 : w1.cell? ⟨w.heap.size + 1, 3, none⟩ = some (.slice da dn dc) := by rw [blk_cell B1.out]; rfl
  obtain ⟨p, hpe⟩ : ∃ p, a * c.offset = p := ⟨_, rfl⟩
  rw [hpe] at hw
  have e2 : IntKind.i64.wrap (a * c.offset) = p := by rw [hpe]; exact hw
  have HPE := Lib.hid hpe
  clear hpe hw
  have k7 : w1.cell? ⟨tb, 0, none⟩ = some (.int .i64 7) := by rw [← h7]; exact H1.out.cell 0
  have NE0 : Hid (w.heap.size ≠ mb) := H1.out.mp.ne B0.out
  have NE1 : Hid (w.heap.size + 1 ≠ mb) := H1.out.mp.ne B1.out
  have NE2 : Hid (tb ≠ mb) := H1.out.mp.ne H1.out.ht
  unfold commonV callV
  clear h
  go_enter Tryz.func31, Tryz.ntmps31
  go_upto_region 2 with fail
  clear hw1
  have z2 : w1.frozen? ⟨tb, 2, none⟩ = false := H1.out.free 2
  have y2 : w1.cell? ⟨tb, 2, none⟩ = some (.int .i64 s.1.cfa.n) := H1.out.cell 2
  have HZ := Lib.hid (H1.out.setCfa 2 (.int .i64 p) (c := ⟨s.1.cfa.kind, s.1.cfa.reg, p, s.1.cfa.expr⟩) (ev' := ev) (by rfl) H1.out.cf)
  go_wp2_with fail
  go_ret
  exact ⟨rfl, mb, ev, kv, qs, by rw [HPE.out]; exact HZ.out⟩

set_option maxRecDepth 100000 in
set_option maxHeartbeats 4000000 in
theorem tc_19_none {W w : World} {tb mb kb : Nat} {ev kv : Value} {qs : List SQ} {s : LSta} (h : TS W w tb mb ev kb kv qs s) (c : LCommon) (cv fv : Value) (a b : Int) (dt : List UInt8) (da : Option Addr) (dc dn : Nat) (h7 : ¬ s.1.cfa.kind = 7) :
    Calls Tryz.prog 31 #[.pointer (some ⟨tb, 0, none⟩), commonV c cv fv, callV 19 a b (.slice da dn dc), .pointer (some ⟨kb, 0, none⟩)] w (TOut W tb kb none w) := by
  have H := Lib.hid h
  obtain ⟨w1, hw1⟩ : ∃ w1, (w.alloc (.cells #[.int .i64 c.version, .int .u64 (c.code : Int), .int .i64 c.offset, .int .i64 c.ret, cv, fv] 36)).alloc (.cells #[.int .i64 19, .int .i64 a, .int .i64 b, .slice da dn dc] 53) = w1 := ⟨_, rfl⟩
  have F1 : Hid (Fr [] w w1) := by rw [← hw1]; exact ((Fr.refl _ _).alloc _).alloc _
  have B0 : Hid (w1.heap[w.heap.size]? = some (.cells #[.int .i64 c.version, .int .u64 (c.code : Int), .int .i64 c.offset, .int .i64 c.ret, cv, fv] 36 (0, 0))) := by rw [← hw1]; exact blk_alloc (blk_new w _)
  have B1 : Hid (w1.heap[w.heap.size + 1]? = some (.cells #[.int .i64 19, .int .i64 a, .int .i64 b, .slice da dn dc] 53 (0, 0))) := by
    have h := blk_new (w.alloc (.cells #[.int .i64 c.version, .int .u64 (c.code : Int), .int .i64 c.offset, .int .i64 c.ret, cv, fv] 36)) (.cells #[.int .i64 19, .int .i64 a, .int .i64 b, .slice da dn dc] 53)
    rw [World.size_alloc, hw1] at h; exact h
  have H1 := Lib.hid (h.idle F1.out)
  have o2 : w1.cell? ⟨w.heap.size, 2, none⟩ = some (.int .i64 c.offset) := by rw [blk_cell B0.out]; rfl
  have x0 : w1.cell? ⟨w.heap.size + 1, 0, none⟩ = some (.int .i64 19) := by rw [blk_cell B1.out]; rfl
  have x1 : w1.cell? ⟨w.heap.size + 1, 1, none⟩ = some (.int .i64 a) := by rw [blk_cell B1.out]; rfl
  have x2 : w1.cell? ⟨w.heap.size + 1, 2, none⟩ = some (.int .i64 b) := by rw [blk_cell B1.out]; rfl
  have x3 : w1.cell? ⟨w.heap.size + 1, 3, none⟩ = some (.slice da dn dc) := by rw [blk_cell B1.out]; rfl
  have k0 : w1.cell? ⟨tb, 0, none⟩ = some (.int .i64 s.1.cfa.kind) := H1.out.cell 0
  have k7 : (s.1.cfa.kind == 7) = false := by rw [beq_eq_false_iff_ne]; exact h7
  have NE0 : Hid (w.heap.size ≠ mb) := H1.out.mp.ne B0.out
  have NE1 : Hid (w.heap.size + 1 ≠ mb) := H1.out.mp.ne B1.out
  have NE2 : Hid (tb ≠ mb) := H1.out.mp.ne H1.out.ht
  unfold commonV callV
  clear h
  go_enter Tryz.func31, Tryz.ntmps31
  go_upto_region 2 with fail
  clear hw1
  go_wp2_with fail
  go_ret
  exact ⟨rfl, H1.out.fr⟩
end Go.Proofs.YtahohmdfllgedaaGreat

namespace Go.Proofs.YtahohmdfllgedaaGreat
open Go.RowKit Go.MapKept
open Go.ChangeMaps (setBlock)

set_option maxRecDepth 100000 in
set_option maxHeartbeats 4000000 in
theorem copied_any (W : World) (mb : Nat) (t : LTab) (ea : Option Addr) (el ec : Nat) (w : World) (h : SMapR W w mb t.rules) (hW : Fr [] W w) :
    Calls Tryz.prog 48 #[.agg (stab t (.slice ea el ec) mb).toArray] w fun e w' => ∃ nb, e = .returned (.agg (stab t (.slice ea el ec) nb).toArray) ∧ w.heap.size ≤ nb ∧ SMapR W w' nb t.rules ∧ Fr [] w w' := by
  have H := Lib.hid h
  obtain ⟨f, hm, hk⟩ := h
  have HM := Lib.hid hm
  have HK := Lib.hid hk
  obtain ⟨es, clock, hb, hst, hks, hf⟩ := hm
  have HS := Lib.hid hst
  have HKS := Lib.hid hks
  have HF := Lib.hid hf
  have HB := Lib.hid hb
  have hmm := @run_makeMap Tryz.prog
  clear hk hb hst hks hf
  unfold stab
  go_enter Tryz.func48, Tryz.ntmps48
  go_upto_region 2 with fail
  have F4 : Hid (Fr [] w ((((w.alloc (.cells #[.int .i64 t.cfa.kind, .int .i64 t.cfa.reg, .int .i64 t.cfa.n, .slice ea el ec, .map (some mb)] 42)).alloc (.cells #[.int .i64 0, .int .i64 0, .int .i64 0, .slice none 0 0, .map none] 42)).alloc (.map #[] 0)).alloc (.cells #[.int .i64 t.cfa.kind, .int .i64 t.cfa.reg, .int .i64 t.cfa.n, .slice ea el ec, .map (some (w.heap.size + 1 + 1))] 42))) := ((((Fr.refl _ _).alloc _).alloc _).alloc _).alloc _
  have BA : Hid (((((w.alloc (.cells #[.int .i64 t.cfa.kind, .int .i64 t.cfa.reg, .int .i64 t.cfa.n, .slice ea el ec, .map (some mb)] 42)).alloc (.cells #[.int .i64 0, .int .i64 0, .int .i64 0, .slice none 0 0, .map none] 42)).alloc (.map #[] 0)).alloc (.cells #[.int .i64 t.cfa.kind, .int .i64 t.cfa.reg, .int .i64 t.cfa.n, .slice ea el ec, .map (some (w.heap.size + 1 + 1))] 42)).heap[w.heap.size]? = some (.cells #[.int .i64 t.cfa.kind, .int .i64 t.cfa.reg, .int .i64 t.cfa.n, .slice ea el ec, .map (some mb)] 42 (0, 0))) := blk_alloc (blk_alloc (blk_alloc (blk_new w _)))
  have BB : Hid (((((w.alloc (.cells #[.int .i64 t.cfa.kind, .int .i64 t.cfa.reg, .int .i64 t.cfa.n, .slice ea el ec, .map (some mb)] 42)).alloc (.cells #[.int .i64 0, .int .i64 0, .int .i64 0, .slice none 0 0, .map none] 42)).alloc (.map #[] 0)).alloc (.cells #[.int .i64 t.cfa.kind, .int .i64 t.cfa.reg, .int .i64 t.cfa.n, .slice ea el ec, .map (some (w.heap.size + 1 + 1))] 42)).heap[w.heap.size + 1]? = some (.cells #[.int .i64 0, .int .i64 0, .int .i64 0, .slice none 0 0, .map none] 42 (0, 0))) := by
    have h := blk_new (w.alloc (.cells #[.int .i64 t.cfa.kind, .int .i64 t.cfa.reg, .int .i64 t.cfa.n, .slice ea el ec, .map (some mb)] 42)) (.cells #[.int .i64 0, .int .i64 0, .int .i64 0, .slice none 0 0, .map none] 42)
    rw [World.size_alloc] at h; exact blk_alloc (blk_alloc h)
  have BC : Hid (MapIs ((((w.alloc (.cells #[.int .i64 t.cfa.kind, .int .i64 t.cfa.reg, .int .i64 t.cfa.n, .slice ea el ec, .map (some mb)] 42)).alloc (.cells #[.int .i64 0, .int .i64 0, .int .i64 0, .slice none 0 0, .map none] 42)).alloc (.map #[] 0)).alloc (.cells #[.int .i64 t.cfa.kind, .int .i64 t.cfa.reg, .int .i64 t.cfa.n, .slice ea el ec, .map (some (w.heap.size + 1 + 1))] 42)) (w.heap.size + 1 + 1) .i64 (fun _ => none)) := by
    have h := blk_new ((w.alloc (.cells #[.int .i64 t.cfa.kind, .int .i64 t.cfa.reg, .int .i64 t.cfa.n, .slice ea el ec, .map (some mb)] 42)).alloc (.cells #[.int .i64 0, .int .i64 0, .int .i64 0, .slice none 0 0, .map none] 42)) (.map #[] 0)
    rw [World.size_alloc, World.size_alloc] at h; exact MapIs.empty _ (blk_alloc h)
  have BD : Hid (((((w.alloc (.cells #[.int .i64 t.cfa.kind, .int .i64 t.cfa.reg, .int .i64 t.cfa.n, .slice ea el ec, .map (some mb)] 42)).alloc (.cells #[.int .i64 0, .int .i64 0, .int .i64 0, .slice none 0 0, .map none] 42)).alloc (.map #[] 0)).alloc (.cells #[.int .i64 t.cfa.kind, .int .i64 t.cfa.reg, .int .i64 t.cfa.n, .slice ea el ec, .map (some (w.heap.size + 1 + 1))] 42)).heap[w.heap.size + 1 + 1 + 1]? = some (.cells #[.int .i64 t.cfa.kind, .int .i64 t.cfa.reg, .int .i64 t.cfa.n, .slice ea el ec, .map (some (w.heap.size + 1 + 1))] 42 (0, 0))) := by
    have h := blk_new (((w.alloc (.cells #[.int .i64 t.cfa.kind, .int .i64 t.cfa.reg, .int .i64 t.cfa.n, .slice ea el ec, .map (some mb)] 42)).alloc (.cells #[.int .i64 0, .int .i64 0, .int .i64 0, .slice none 0 0, .map none] 42)).alloc (.map #[] 0)) (.cells #[.int .i64 t.cfa.kind, .int .i64 t.cfa.reg, .int .i64 t.cfa.n, .slice ea el ec, .map (some (w.heap.size + 1 + 1))] 42)
    rw [World.size_alloc, World.size_alloc, World.size_alloc] at h; exact h
  have hsz : ((((w.alloc (.cells #[.int .i64 t.cfa.kind, .int .i64 t.cfa.reg, .int .i64 t.cfa.n, .slice ea el ec, .map (some mb)] 42)).alloc (.cells #[.int .i64 0, .int .i64 0, .int .i64 0, .slice none 0 0, .map none] 42)).alloc (.map #[] 0)).alloc (.cells #[.int .i64 t.cfa.kind, .int .i64 t.cfa.reg, .int .i64 t.cfa.n, .slice ea el ec, .map (some (w.heap.size + 1 + 1))] 42)).heap.size = w.heap.size + 1 + 1 + 1 + 1 := by simp only [World.size_alloc]
  generalize ((((w.alloc (.cells #[.int .i64 t.cfa.kind, .int .i64 t.cfa.reg, .int .i64 t.cfa.n, .slice ea el ec, .map (some mb)] 42)).alloc (.cells #[.int .i64 0, .int .i64 0, .int .i64 0, .slice none 0 0, .map none] 42)).alloc (.map #[] 0)).alloc (.cells #[.int .i64 t.cfa.kind, .int .i64 t.cfa.reg, .int .i64 t.cfa.n, .slice ea el ec, .map (some (w.heap.size + 1 + 1))] 42)) = w4 at *
  have hrg := run_range_map (P := Tryz.prog) w4 40 3 39 mb es clock Tryz.underlying40 (F4.out.get HB.out (by simp))
  have a4 : w4.cell? ⟨w.heap.size, 4, none⟩ = some (.map (some mb)) := blk_cell BA.out 4
  have hzz : ∀ w : World, (zeroValue 39).run Tryz.prog w = .ok (.agg #[.int .i64 0, .int .i64 0, .int .i64 0, .slice none 0 0]) w := fun w => by kernel_rfl
  have HSZ := Lib.hid hsz
  go_wp2_with fail
  clear a4 hrg
  have F0 : Hid (Fr [] w4 (w4.alloc (.mapIter (some mb) clock #[] clock))) := (Fr.refl _ _).alloc _
  have hr0 := blk_new w4 (.mapIter (some mb) clock #[] clock)
  generalize w4.alloc (.mapIter (some mb) clock #[] clock) = w0 at *
  rw [hsz] at hr0
  obtain ⟨bb, hbb⟩ : ∃ bb, w.heap.size + 1 = bb := ⟨_, rfl⟩
  obtain ⟨nb, hnb⟩ : ∃ nb, bb + 1 = nb := ⟨_, rfl⟩
  obtain ⟨d, hd⟩ : ∃ d, nb + 1 = d := ⟨_, rfl⟩
  obtain ⟨r, hr⟩ : ∃ r, d + 1 = r := ⟨_, rfl⟩
  rw [hbb, hnb, hd, hr] at hr0
  rw [hbb, hnb] at BC BD
  rw [hd] at BD
  rw [hbb] at BB
  simp only [hbb, hnb, hd, hr]
  have HR0 := Lib.hid hr0
  have HN0 := Lib.hid (BC.out.fr F0.out (by simp))
  have HNS := Lib.hid (And.intro hbb (And.intro hnb (And.intro hd hr)))
  have BD0 := Lib.hid (F0.out.get BD.out (by simp))
  have BB0 := Lib.hid (F0.out.get BB.out (by simp))
  clear hr0 hbb hnb hd hr hsz
  go_loopw [4, 5] (fun _ _ wr => ∃ seen g, wr.heap[r]? = some (.mapIter (some mb) clock seen clock) ∧ MapIs wr nb .i64 g ∧ SeenF es seen .i64 g ∧ Fr [nb, r] w0 wr) (fun _ _ wr => (leftOf es (wr.iterSeen r)).size)
  case atStart => exact ⟨#[], _, HR0.out, HN0.out, SeenF.nil _ _, Fr.refl _ _⟩
  case round =>
    obtain ⟨seen, g, hir, hmg, hsg, hfr⟩ := hrel
    have HIR := Lib.hid hir
    have HMG := Lib.hid hmg
    have HSG := Lib.hid hsg
    have HFR := Lib.hid hfr
    have hmb : mb ∉ [nb, r] := by
      have h1 := HM.out.lt; have h2 := HNS.out; simp; omega
    have hdn : d ∉ [nb, r] := by have h2 := HNS.out; simp; omega
    have hbn : bb ∉ [nb, r] := by have h2 := HNS.out; simp; omega
    have hbr : wr.heap[mb]? = some (.map es clock) := hfr.get (F0.out.get (F4.out.get HB.out (by simp)) (by simp)) hmb
    have HBR := Lib.hid hbr
    have hdr := hfr.get BD0.out hdn
    have HDR := Lib.hid hdr
    have HBBR := Lib.hid (hfr.get BB0.out hbn)
    rcases run_next_at (P := Tryz.prog) wr 0 r mb clock clock seen es clock hir hbr HS.out.1 (Nat.le_refl _) with ⟨h0, hrun⟩ | ⟨x, hxm, w1, hal, hrun⟩
    · have hnx : ∀ ty, (Instr.next (.pointer (some ⟨r, 0, none⟩)) false ty).run Tryz.prog wr = .ok (.tuple #[.bool false]) wr := fun _ => hrun
      have H0 := Lib.hid h0
      have u0 : wr.cell? ⟨d, 0, none⟩ = some (.int .i64 t.cfa.kind) := blk_cell hdr 0
      have u1 : wr.cell? ⟨d, 1, none⟩ = some (.int .i64 t.cfa.reg) := blk_cell hdr 1
      have u2 : wr.cell? ⟨d, 2, none⟩ = some (.int .i64 t.cfa.n) := blk_cell hdr 2
      have u3 : wr.cell? ⟨d, 3, none⟩ = some (.slice ea el ec) := blk_cell hdr 3
      have u4 : wr.cell? ⟨d, 4, none⟩ = some (.map (some nb)) := blk_cell hdr 4
      have v0 : wr.cell? ⟨bb, 0, none⟩ = some (.int .i64 0) := blk_cell HBBR.out 0
      have v1 : wr.cell? ⟨bb, 1, none⟩ = some (.int .i64 0) := blk_cell HBBR.out 1
      have v2 : wr.cell? ⟨bb, 2, none⟩ = some (.int .i64 0) := blk_cell HBBR.out 2
      have v3 : wr.cell? ⟨bb, 3, none⟩ = some (.slice none 0 0) := blk_cell HBBR.out 3
      have v4 : wr.cell? ⟨bb, 4, none⟩ = some (.map none) := blk_cell HBBR.out 4
      have z0 := blk_free HBBR.out 0
      have z1 := blk_free HBBR.out 1
      have z2 := blk_free HBBR.out 2
      have z3 := blk_free HBBR.out 3
      have z4 := blk_free HBBR.out 4
      clear hir hmg hsg hfr hmb hbr hrun h0 hdn hbn hdr
      go_wp2_with fail
      have b6 := blk_set (blk_set (blk_set (blk_set (blk_set HBBR.out 0 (.int .i64 t.cfa.kind)) 1 (.int .i64 t.cfa.reg)) 2 (.int .i64 t.cfa.n)) 3 (.slice ea el ec)) 4 (.map (some nb))
      have f6 : Fr [bb] wr (((((wr.setCell ⟨bb, 0, none⟩ (.int .i64 t.cfa.kind)).setCell ⟨bb, 1, none⟩ (.int .i64 t.cfa.reg)).setCell ⟨bb, 2, none⟩ (.int .i64 t.cfa.n)).setCell ⟨bb, 3, none⟩ (.slice ea el ec)).setCell ⟨bb, 4, none⟩ (.map (some nb))) := (((((Fr.refl _ _).setCell (.inl (by simp)) _).setCell (.inl (by simp)) _).setCell (.inl (by simp)) _).setCell (.inl (by simp)) _).setCell (.inl (by simp)) _
      generalize (((((wr.setCell ⟨bb, 0, none⟩ (.int .i64 t.cfa.kind)).setCell ⟨bb, 1, none⟩ (.int .i64 t.cfa.reg)).setCell ⟨bb, 2, none⟩ (.int .i64 t.cfa.n)).setCell ⟨bb, 3, none⟩ (.slice ea el ec)).setCell ⟨bb, 4, none⟩ (.map (some nb))) = w6 at *
      have r0 : w6.cell? ⟨bb, 0, none⟩ = some (.int .i64 t.cfa.kind) := by rw [blk_cell b6]; rfl
      have r1 : w6.cell? ⟨bb, 1, none⟩ = some (.int .i64 t.cfa.reg) := by rw [blk_cell b6]; rfl
      have r2 : w6.cell? ⟨bb, 2, none⟩ = some (.int .i64 t.cfa.n) := by rw [blk_cell b6]; rfl
      have r3 : w6.cell? ⟨bb, 3, none⟩ = some (.slice ea el ec) := by rw [blk_cell b6]; rfl
      have r4 : w6.cell? ⟨bb, 4, none⟩ = some (.map (some nb)) := by rw [blk_cell b6]; rfl
      refine bodyPost_ret (v := .agg #[.int .i64 t.cfa.kind, .int .i64 t.cfa.reg, .int .i64 t.cfa.n, .slice ea el ec, .map (some nb)]) (by simp [results, Tryz.results48, go_sem, r0, r1, r2, r3, r4]) rfl ?_
      have e : g = f := HSG.out.all H0.out HF.out
      have hF : Fr [] w wr := (F4.out.then F0.out).trans HFR.out (fun i hi hlt => by have := HNS.out; simp at hi; omega)
      have hF6 : Fr [] w w6 := hF.trans f6 (fun i hi hlt => by have := HNS.out; simp at hi; omega)
      refine ⟨nb, rfl, by have := HNS.out; omega, ⟨g, HMG.out.fr f6 (by have := HNS.out; simp; omega), fun k => ?_⟩, hF6⟩
      rw [e]
      exact HK.out k
    · have hxe := (mem_left hxm).1
      obtain ⟨n, hn⟩ := isKey_int (HKS.out x hxe)
      have hfx : f n = some x.val := (HF.out n _).2 ⟨x, hxe, hn, rfl⟩
      obtain ⟨ka, kl, kc, rk, rn, rr, hev⟩ : ∃ ka kl kc rk rn rr, x.val = .agg #[.int .i64 rk, .int .i64 rr, .int .i64 rn, .slice ka kl kc] := by
        rcases HK.out n with ⟨-, h⟩ | ⟨r, v, -, h, ev, h2, h3⟩
        · rw [hfx] at h; cases h
        · rw [hfx] at h; obtain rfl := Option.some.inj h
          obtain ⟨ka, kc, rfl⟩ := sl_form h3
          exact ⟨ka, _, kc, _, _, _, h2⟩
      obtain ⟨W1, hW1⟩ : ∃ W1, setBlock w1 r (.mapIter (some mb) clock (seen.push x.born) clock) = W1 := ⟨_, rfl⟩
      have hr1 : w1.heap[r]? = some (.mapIter (some mb) clock seen clock) := by rcases hal with rfl | rfl <;> exact hir
      have hf1 : Fr [r] wr W1 := by
        rw [← hW1]
        have h1 : Fr [r] wr w1 := by rcases hal with rfl | rfl; exact Fr.refl _ _; exact (Fr.refl _ _).drew
        exact h1.trans (setBlock_fr w1 r _) (fun i h _ => h)
      have hrw : W1.heap[r]? = some (.mapIter (some mb) clock (seen.push x.born) clock) := by rw [← hW1]; exact setBlock_get hr1
      have hrm : r ≠ mb := fun e => hmb (by simp [e])
      have hrb : r ≠ nb := iter_ne hir hmg
      have hbw : W1.heap[mb]? = some (.map es clock) := hf1.get hbr (by simpa using hrm.symm)
      have hdw := hf1.get hdr (fun e => hdn (by simp at e; simp [e]))
      have d4 : ∀ q, (W1.alloc q).cell? ⟨d, 4, none⟩ = some (.map (some nb)) := fun q => ((Fr.refl [] W1).alloc q).cell (blk_cell hdw 4) (by simp)
      rw [hW1, hn, hev] at hrun
      have hnx : ∀ ty, (Instr.next (.pointer (some ⟨r, 0, none⟩)) false ty).run Tryz.prog wr = .ok (.tuple #[.bool true, .int .i64 n, .agg #[.int .i64 rk, .int .i64 rr, .int .i64 rn, .slice ka kl kc]]) W1 := fun _ => hrun
      have hen := run_entry_at (P := Tryz.prog) W1 r mb clock seen es clock x hrw hbw hxe HS.out.2.1
      rw [hn, hev] at hen
      have hmg1 : MapIs (W1.alloc (.cells #[.int .i64 rk, .int .i64 rr, .int .i64 rn, .slice ka kl kc] 39)) nb .i64 g := (hmg.fr hf1 (by simpa using hrb.symm)).fr ((Fr.refl [] _).alloc _) (by simp)
      obtain ⟨W2, hup, hm2, hf2⟩ := MapIs.update (P := Tryz.prog) hmg1 Tryz.underlying40 Tryz.underlying3 n (.agg #[.int .i64 rk, .int .i64 rr, .int .i64 rn, .slice ka kl kc])
      have HF1 := Lib.hid hf1
      have HF2 := Lib.hid hf2
      have HM2 := Lib.hid hm2
      have HRW := Lib.hid hrw
      have HRB := Lib.hid hrb
      have HXM := Lib.hid hxm
      have HN := Lib.hid hn
      have HEV := Lib.hid hev
      clear hir hmg hsg hfr hmb hbr hrun hxm hfx hW1 hr1 hf1 hrw hrm hbw hmg1 hm2 hf2 hal hxe hn hev hrb hdn hbn hdr hdw
      go_wp2_with fail
      go_roundw
      case rel =>
        have hr2 : W2.heap[r]? = some (.mapIter (some mb) clock (seen.push x.born) clock) := HF2.out.get (blk_alloc HRW.out) (by simpa using HRB.out)
        refine ⟨_, _, hr2, HM2.out, ?_, ?_⟩
        · have := HSG.out.push HS.out (mem_left HXM.out).1 HN.out
          rw [HEV.out] at this; exact this
        · exact (HFR.out.trans HF1.out (fun i hi _ => by simp at hi ⊢; exact .inr hi)).trans ((((Fr.refl [nb] W1).alloc _).trans HF2.out (fun i hi _ => hi))) (fun i hi _ => by simp at hi ⊢; exact .inl hi)
      case measure =>
        have hr2 : W2.heap[r]? = some (.mapIter (some mb) clock (seen.push x.born) clock) := HF2.out.get (blk_alloc HRW.out) (by simpa using HRB.out)
        have e1 : W2.iterSeen r = seen.push x.born := by unfold World.iterSeen; rw [hr2]
        have e2 : wr.iterSeen r = seen := by unfold World.iterSeen; rw [HIR.out]
        rw [e1, e2]
        exact left_shrinks es seen x HXM.out
end Go.Proofs.YtahohmdfllgedaaGreat

namespace Go.Proofs.YtahohmdfllgedaaGreat
open Go.RowKit

theorem copied_x (W : World) (mb : Nat) (t : LTab) (ea : Option Addr) (el ec : Nat) (w : World) (h : SMapR W w mb t.rules) (hW : Fr [] W w) :
    Calls Tryz.prog 48 #[.agg #[.int .i64 t.cfa.kind, .int .i64 t.cfa.reg, .int .i64 t.cfa.n, .slice ea el ec, .map (some mb)]] w fun e w' => ∃ nb, e = .returned (.agg #[.int .i64 t.cfa.kind, .int .i64 t.cfa.reg, .int .i64 t.cfa.n, .slice ea el ec, .map (some nb)]) ∧ w.heap.size ≤ nb ∧ SMapR W w' nb t.rules ∧ Fr [] w w' :=
  copied_any W mb t ea el ec w h hW
theorem sliceST : SliceT Tryz.prog 91 42 (.agg #[.int .i64 0, .int .i64 0, .int .i64 0, .slice none 0 0, .map none]) 5 56 := ⟨Tryz.underlying91, by kernel_rfl, rfl, by decide⟩
theorem TS.push {W w : World} {tb mb kb : Nat} {ev kv : Value} {qs : List SQ} {s : LSta} (h : TS W w tb mb ev kb kv qs s) {w2 wA : World} {nb : Nat} {kv' : Value} (f2 : Fr [] w w2) (hm : SMapR W w2 nb s.1.rules) (hnb : w.heap.size ≤ nb) (hf : Fr kv.ownBlock.toList w2 wA)
    (ho : wA.ownsRow W.heap.size 42 5 kv' (qs.length + 1) (stabs qs ++ stab s.1 ev nb)) (hg : ∀ g, kv'.ownBlock = some g → kv.ownBlock = some g ∨ w2.heap.size ≤ g) :
    TS W (wA.setCell ⟨kb, 0, none⟩ kv') tb mb ev kb kv' (qs ++ [(s.1, ev, nb)]) (s.1, s.2 ++ [s.1]) := by
  have h2 := h.idle f2
  have htn : tb ∉ kv.ownBlock.toList := fun hm => h.kn (by simpa using hm)
  have hkn : kb ∉ kv.ownBlock.toList := fun hm => by
    obtain ⟨cur, hc⟩ := own_cells h2.kr (g := kb) (by simpa using hm)
    exact cells_ne h2.hk hc (by decide) rfl
  have hmn : ∀ {b m}, SMapR W w2 b m → b ∉ kv.ownBlock.toList := fun {b m} hb hm => by
    obtain ⟨cur, hc⟩ := own_cells h2.kr (g := b) (by simpa using hm)
    exact hb.ne hc rfl
  have hkt : tb ≠ kb := (cells_ne h2.hk h2.ht (by decide)).symm
  have fs : Fr [kb] wA (wA.setCell ⟨kb, 0, none⟩ kv') := (Fr.refl _ _).setCell (.inl (by simp)) _
  have hkA := hf.get h2.hk hkn
  have htA := hf.get h2.ht htn
  have hmF : ∀ {b m}, SMapR W w2 b m → SMapR W (wA.setCell ⟨kb, 0, none⟩ kv') b m := fun {b m} hb => (hb.fr hf (hmn hb)).fr fs (by
    have := (hb.fr hf (hmn hb)).ne hkA; simpa using this.symm)
  have hgt : W.heap.size ≤ w.heap.size := h.fr.size
  refine ⟨(h2.fr.trans hf (fun i hi hlt => by have := own_ge h2.kr (g := i) (by simpa using hi); omega)).setCell (.inr h.gk) _, fs.get htA (by simpa using hkt), h.gt, h.cf, hmF h2.mp, h.gm, one_setCell hkA, h.gk, ?_, ?_, ?_, ?_, ?_, ?_⟩
  · rw [List.length_append, stabs_app]
    have e : stabs [(s.1, ev, nb)] = stab s.1 ev nb := by simp [stabs]
    rw [e]
    exact own_fr ho fs (fun g hg1 => by
      obtain ⟨cur, hc⟩ := own_cells ho hg1
      simpa using cells_ne hc hkA (by decide))
  · intro e
    rcases hg tb e with h3 | h3
    · exact h.kn h3
    · have := lt_heap h2.ht; omega
  · intro q hq
    rcases List.mem_append.1 hq with hq | hq
    · exact ⟨(h2.sq q hq).1, hmF (h2.sq q hq).2⟩
    · simp at hq; subst hq; exact ⟨h.cf, hmF hm⟩
  · intro q hq
    rcases List.mem_append.1 hq with hq | hq
    · exact h.gq q hq
    · simp at hq; subst hq; show W.heap.size ≤ nb; omega
  · rw [List.map_append, h.sk]; rfl
  · have h1 := h.nd
    have hlt : ∀ x ∈ mb :: qs.map (·.2.2), x < nb := fun x hx => by
      rcases List.mem_cons.1 hx with rfl | hx
      · obtain ⟨g, h3, -⟩ := h.mp; have := h3.lt; omega
      · obtain ⟨q, hq, rfl⟩ := List.mem_map.1 hx
        obtain ⟨g, h3, -⟩ := (h.sq q hq).2; have := h3.lt; omega
    rw [List.map_append, ← List.cons_append, List.nodup_append]
    refine ⟨h1, by simp, fun x hx y hy => ?_⟩
    simp at hy; subst hy
    have := hlt x hx
    omega

theorem TS.push3 {W w : World} {tb mb kb : Nat} {ev : Value} {qs : List SQ} {s : LSta} {ka : Option Addr} {kc n : Nat} (h : TS W w tb mb ev kb (.slice ka qs.length kc) qs s) (hn : qs.length = n) {w2 wA : World} {nb : Nat} {kv' : Value} (f2 : Fr [] w w2) (hm : SMapR W w2 nb s.1.rules) (hnb : w.heap.size ≤ nb)
    (hf : Fr (Value.slice ka n kc).ownBlock.toList w2 wA) (ho : wA.ownsRow W.heap.size 42 5 kv' (n + 1) (stabs qs ++ [.int .i64 s.1.cfa.kind, .int .i64 s.1.cfa.reg, .int .i64 s.1.cfa.n, ev, .map (some nb)])) (hg : ∀ g, kv'.ownBlock = some g → (Value.slice ka n kc).ownBlock = some g ∨ w2.heap.size ≤ g) :
    TS W (wA.setCell ⟨kb, 0, none⟩ kv') tb mb ev kb kv' (qs ++ [(s.1, ev, nb)]) (s.1, s.2 ++ [s.1]) := by
  subst hn; exact h.push f2 hm hnb hf ho hg

set_option maxRecDepth 100000 in
set_option maxHeartbeats 4000000 in
theorem tc_10 {W w : World} {tb mb kb : Nat} {ev kv : Value} {qs : List SQ} {s : LSta} (h : TS W w tb mb ev kb kv qs s) (c : LCommon) (cv fv : Value) (a b : Int) (dt : List UInt8) (da : Option Addr) (dc dn : Nat) (hq : qs.length ≤ 1000) :
    Calls Tryz.prog 31 #[.pointer (some ⟨tb, 0, none⟩), commonV c cv fv, callV 10 a b (.slice da dn dc), .pointer (some ⟨kb, 0, none⟩)] w (TOut W tb kb (some (s.1, s.2 ++ [s.1])) w) := by
  have H := Lib.hid h
  obtain ⟨w1, hw1⟩ : ∃ w1, (w.alloc (.cells #[.int .i64 c.version, .int .u64 (c.code : Int), .int .i64 c.offset, .int .i64 c.ret, cv, fv] 36)).alloc (.cells #[.int .i64 10, .int .i64 a, .int .i64 b, .slice da dn dc] 53) = w1 := ⟨_, rfl⟩
  have F1 : Hid (Fr [] w w1) := by rw [← hw1]; exact ((Fr.refl _ _).alloc _).alloc _
  have B0 : Hid (w1.heap[w.heap.size]? = some (.cells #[.int .i64 c.version, .int .u64 (c.code : Int), .int .i64 c.offset, .int .i64 c.ret, cv, fv] 36 (0, 0))) := by rw [← hw1]; exact blk_alloc (blk_new w _)
  have B1 : Hid (w1.heap[w.heap.size + 1]? = some (.cells #[.int .i64 10, .int .i64 a, .int .i64 b, .slice da dn dc] 53 (0, 0))) := by
    have h := blk_new (w.alloc (.cells #[.int .i64 c.version, .int .u64 (c.code : Int), .int .i64 c.offset, .int .i64 c.ret, cv, fv] 36)) (.cells #[.int .i64 10, .int .i64 a, .int .i64 b, .slice da dn dc] 53)
    rw [World.size_alloc, hw1] at h; exact h
  have H1 := Lib.hid (h.idle F1.out)
  have o2 : w1.cell? ⟨w.heap.size, 2, none⟩ = some (.int .i64 c.offset) := by rw [blk_cell B0.out]; rfl
  have x0 : w1.cell? ⟨w.heap.size + 1, 0, none⟩ = some (.int .i64 10) := by rw [blk_cell B1.out]; rfl
  have x1 : w1.cell? ⟨w.heap.size + 1, 1, none⟩ = some (.int .i64 a) := by rw [blk_cell B1.out]; rfl
  have x2 : w1.cell? ⟨w.heap.size + 1, 2, none⟩ = some (.int .i64 b) := by rw [blk_cell B1.out]; rfl
  have x3 : w1.cell? ⟨w.heap.size + 1, 3, none⟩ = some (.slice da dn dc) := by rw [blk_cell B1.out]; rfl
  have NE0 : Hid (w.heap.size ≠ mb) := H1.out.mp.ne B0.out
  have NE1 : Hid (w.heap.size + 1 ≠ mb) := H1.out.mp.ne B1.out
  have NE2 : Hid (tb ≠ mb) := H1.out.mp.ne H1.out.ht
  unfold commonV callV
  clear h
  go_enter Tryz.func31, Tryz.ntmps31
  go_upto_region 2 with fail
  clear hw1
  have hq2 : qs.length ≤ 1000 := hq
  obtain ⟨ka, kc, rfl⟩ := own_slice H1.out.kr
  obtain ⟨ea, el, ec, rfl⟩ : ∃ ea el ec, ev = .slice ea el ec := by obtain ⟨x, y, h⟩ := sl_form H1.out.cf; exact ⟨x, _, y, h⟩
  have k0 : w1.cell? ⟨kb, 0, none⟩ = some (.slice ka qs.length kc) := blk_cell H1.out.hk 0
  have y0 : w1.cell? ⟨tb, 0, none⟩ = some (.int .i64 s.1.cfa.kind) := H1.out.cell 0
  have y1 : w1.cell? ⟨tb, 1, none⟩ = some (.int .i64 s.1.cfa.reg) := H1.out.cell 1
  have y2 : w1.cell? ⟨tb, 2, none⟩ = some (.int .i64 s.1.cfa.n) := H1.out.cell 2
  have y3 : w1.cell? ⟨tb, 3, none⟩ = some (.slice ea el ec) := H1.out.cell 3
  have y4 : w1.cell? ⟨tb, 4, none⟩ = some (.map (some mb)) := H1.out.cell 4
  have HB : Hid (W.heap.size ≤ w1.heap.size) := H1.out.fr.size
  obtain ⟨n, hn⟩ : ∃ n, qs.length = n := ⟨_, rfl⟩
  have HN := Lib.hid hn
  have hkb := H1.out.hk
  rw [hn] at hkb
  have KB := Lib.hid hkb
  clear hkb
  rw [hn] at k0 hq2
  have HO : Hid (∀ w', Fr [] w1 w' → w'.ownsRow W.heap.size 42 5 (.slice ka n kc) n (stabs qs)) := fun w' f => by have h := (H1.out.idle f).kr; rw [hn] at h; exact h
  clear hn hq
  go_wp2_with fail
  go_region_law (first
    | (go_simp; go_at_call 48; refine (copied_x W mb s.1 ea el ec _ ((H1.out.mp).fr (bs := []) ((Fr.refl [] w1).drew) (by simp)) (H1.out.fr.drew)).mono ?_; rintro e w2 ⟨nb, rfl, hnb, hmn, hf2⟩; have F2 : Hid (Fr [] w1 w2) := ((Fr.refl [] w1).drew).then hf2; have HNB : Hid (w1.heap.size ≤ nb) := hnb; have HMN := Lib.hid hmn; have k2 : w2.cell? ⟨kb, 0, none⟩ = some (.slice ka n kc) := F2.out.cell k0 (by simp); have k2a : ∀ o, (w2.alloc o).cell? ⟨kb, 0, none⟩ = some (.slice ka n kc) := fun o => ((Fr.refl [] w2).alloc o).cell k2 (by simp); clear hf2 hnb hmn)
    | (have _t := F2; go_must (refine step_app2 sliceST _ (by rfl) _ _ (by rfl) W.heap.size _ n (stabs qs) (by rfl) (HO.out _ (by first | exact (F2.out.alloc _) | exact (F2.out.alloc _).drew | exact (F2.out.drew).alloc _)) (some ⟨_, 0, none⟩) 1 1 [.int .i64 s.1.cfa.kind, .int .i64 s.1.cfa.reg, .int .i64 s.1.cfa.n, .slice ea el ec, .map (some nb)] (by rfl) (by rfl) (fun h => by cases h) (news_blk (blk_new _ _)) (by simp [Value.oneCell']) (by omega) (by decide) (by have := HB.out; have := F2.out.size; simp; omega) ?_); intro a5 c5 wA ho5 hf5 hg5; have HP : Hid (TS W (wA.setCell ⟨kb, 0, none⟩ (.slice a5 (n + 1) c5)) tb mb (.slice ea el ec) kb (.slice a5 (n + 1) c5) (qs ++ [(s.1, .slice ea el ec, nb)]) (s.1, s.2 ++ [s.1])) := TS.push3 H1.out HN.out (F2.out.alloc _) (SMapR.fr (bs := []) HMN.out ((Fr.refl [] _).alloc _) (by simp)) HNB.out hf5 ho5 hg5; have kA : wA.heap[kb]? = some (.cells #[.slice ka n kc] 91 (0, 0)) := hf5.get ((F2.out.alloc _).get KB.out (by simp)) (fun hm => by obtain ⟨cur, hc⟩ := own_cells (HO.out _ (Fr.refl [] w1)) (g := kb) (by simpa using hm); exact cells_ne KB.out hc (by decide) rfl); have sA : wA.cell? ⟨kb, 0, none⟩ = some (.slice ka n kc) := blk_cell kA 0; have zA : wA.frozen? ⟨kb, 0, none⟩ = false := blk_free kA 0; clear ho5 hf5 hg5 kA))
  all_goals
    go_wp2_with fail
    go_ret
    exact ⟨rfl, _, _, _, _, HP.out⟩
end Go.Proofs.YtahohmdfllgedaaGreat

namespace Go.Proofs.YtahohmdfllgedaaGreat
open Go.RowKit

theorem TS.pop {W w : World} {tb mb kb : Nat} {ev : Value} {qs : List SQ} {q : SQ} {s : LSta} {ka : Option Addr} {kc n : Nat} (h : TS W w tb mb ev kb (.slice ka (n + 1) kc) (qs ++ [q]) s) (hn : qs.length = n) {w6 : World} (hw6 : w6.heap[tb]? = some (.cells (stab q.1 q.2.1 q.2.2).toArray 42 (0, 0))) (f6 : Fr [tb] w w6) :
    TS W (w6.setCell ⟨kb, 0, none⟩ (.slice ka n kc)) tb q.2.2 q.2.1 kb (.slice ka n kc) qs (q.1, s.2.dropLast) := by
  have hkt : kb ≠ tb := cells_ne h.hk h.ht (by decide)
  have hk6 := f6.get h.hk (by simpa using hkt)
  have fs : Fr [kb] w6 (w6.setCell ⟨kb, 0, none⟩ (.slice ka n kc)) := (Fr.refl _ _).setCell (.inl (by simp)) _
  have hq := h.sq q (by simp)
  have hmF : ∀ {b m}, SMapR W w b m → SMapR W (w6.setCell ⟨kb, 0, none⟩ (.slice ka n kc)) b m := fun {b m} hb => by
    have h1 := hb.fr f6 (by simpa using (hb.ne h.ht).symm)
    exact h1.fr fs (by simpa using (h1.ne hk6).symm)
  have hkr := h.kr
  rw [List.length_append, List.length_singleton, hn] at hkr
  obtain ⟨g, rfl, h1, h2, h3⟩ := own_shrink hkr
  have hst : (stabs (qs ++ [q])).take (n * 5) = stabs qs := by
    rw [stabs_app, List.take_append_of_le_length (by rw [stabs_len, hn]; exact Nat.le_refl _), List.take_of_length_le (by rw [stabs_len, hn]; exact Nat.le_refl _)]
  rw [hst] at h3
  have hgt : g ≠ tb := fun e => h.kn (by rw [← e]; rfl)
  have hnd := h.nd
  rw [List.map_append, List.map_singleton] at hnd
  refine ⟨(h.fr.trans f6 (fun i hi hlt => by simp at hi; subst hi; have := h.gt; omega)).setCell (.inr h.gk) _, fs.get hw6 (by simpa using hkt.symm), h.gt, hq.1, hmF hq.2, h.gq q (by simp), one_setCell hk6, h.gk, ?_, fun e => h.kn (by simpa [Value.ownBlock] using e), fun p hp => ⟨(h.sq p (by simp [hp])).1, hmF (h.sq p (by simp [hp])).2⟩, fun p hp => h.gq p (by simp [hp]), ?_, ?_⟩
  · rw [hn]
    refine own_fr (own_fr h3 f6 (fun g' hg' => ?_)) fs (fun g' hg' => ?_)
    · simp [Value.ownBlock] at hg'; subst hg'; simpa using hgt
    · simp [Value.ownBlock] at hg'; subst hg'
      obtain ⟨cur, hc⟩ := own_cells hkr (g := g) rfl
      simpa using cells_ne hc h.hk (by decide)
  · show qs.map (·.1) = s.2.dropLast
    rw [← h.sk, List.map_append, List.map_singleton, List.dropLast_concat]
  · simp only [List.nodup_cons, List.nodup_append] at hnd
    obtain ⟨h4, h5, h6, h7⟩ := hnd
    rw [List.nodup_cons]
    exact ⟨fun hm => h7 _ hm _ (by simp) rfl, h5⟩
end Go.Proofs.YtahohmdfllgedaaGreat

namespace Go.Proofs.YtahohmdfllgedaaGreat
open Go.RowKit

set_option maxRecDepth 100000 in
set_option maxHeartbeats 4000000 in
theorem tc_11_none {W w : World} {tb mb kb : Nat} {ev kv : Value} {qs : List SQ} {s : LSta} (h : TS W w tb mb ev kb kv qs s) (c : LCommon) (cv fv : Value) (a b : Int) (dt : List UInt8) (da : Option Addr) (dc dn : Nat) (hq : s.2 = []) :
    Calls Tryz.prog 31 #[.pointer (some ⟨tb, 0, none⟩), commonV c cv fv, callV 11 a b (.slice da dn dc), .pointer (some ⟨kb, 0, none⟩)] w (TOut W tb kb none w) := by
  have H := Lib.hid h
  obtain ⟨w1, hw1⟩ : ∃ w1, (w.alloc (.cells #[.int .i64 c.version, .int .u64 (c.code : Int), .int .i64 c.offset, .int .i64 c.ret, cv, fv] 36)).alloc (.cells #[.int .i64 11, .int .i64 a, .int .i64 b, .slice da dn dc] 53) = w1 := ⟨_, rfl⟩
  have F1 : Hid (Fr [] w w1) := by rw [← hw1]; exact ((Fr.refl _ _).alloc _).alloc _
  have B0 : Hid (w1.heap[w.heap.size]? = some (.cells #[.int .i64 c.version, .int .u64 (c.code : Int), .int .i64 c.offset, .int .i64 c.ret, cv, fv] 36 (0, 0))) := by rw [← hw1]; exact blk_alloc (blk_new w _)
  have B1 : Hid (w1.heap[w.heap.size + 1]? = some (.cells #[.int .i64 11, .int .i64 a, .int .i64 b, .slice da dn dc] 53 (0, 0))) := by
    have h := blk_new (w.alloc (.cells #[.int .i64 c.version, .int .u64 (c.code : Int), .int .i64 c.offset, .int .i64 c.ret, cv, fv] 36)) (.cells #[.int .i64 11, .int .i64 a, .int .i64 b, .slice da dn dc] 53)
    rw [World.size_alloc, hw1] at h; exact h
  have H1 := Lib.hid (h.idle F1.out)
  have o2 : w1.cell? ⟨w.heap.size, 2, none⟩ = some (.int .i64 c.offset) := by rw [blk_cell B0.out]; rfl
  have x0 : w1.cell? ⟨w.heap.size + 1, 0, none⟩ = some (.int .i64 11) := by rw [blk_cell B1.out]; rfl
  have x1 : w1.cell? ⟨w.heap.size + 1, 1, none⟩ = some (.int .i64 a) := by rw [blk_cell B1.out]; rfl
  have x2 : w1.cell? ⟨w.heap.size + 1, 2, none⟩ = some (.int .i64 b) := by rw [blk_cell B1.out]; rfl
  have x3 : w1.cell? ⟨w.heap.size + 1, 3, none⟩ = some (.slice da dn dc) := by rw [blk_cell B1.out]; rfl
  have hl : qs.length = 0 := by have h1 := congrArg List.length H1.out.sk; rw [hq] at h1; simpa using h1
  obtain ⟨ka, kc, rfl⟩ := own_slice H1.out.kr
  have k0 : w1.cell? ⟨kb, 0, none⟩ = some (.slice ka qs.length kc) := blk_cell H1.out.hk 0
  rw [hl] at k0
  have HL := Lib.hid hl
  clear hl hq
  have NE0 : Hid (w.heap.size ≠ mb) := H1.out.mp.ne B0.out
  have NE1 : Hid (w.heap.size + 1 ≠ mb) := H1.out.mp.ne B1.out
  have NE2 : Hid (tb ≠ mb) := H1.out.mp.ne H1.out.ht
  unfold commonV callV
  clear h
  go_enter Tryz.func31, Tryz.ntmps31
  go_upto_region 2 with fail
  clear hw1
  go_wp2_with fail
  go_ret
  exact ⟨rfl, H1.out.fr⟩

set_option maxRecDepth 100000 in
set_option maxHeartbeats 4000000 in
theorem tc_11 {W w : World} {tb mb kb : Nat} {ev kv : Value} {qs : List SQ} {s : LSta} (h : TS W w tb mb ev kb kv qs s) (c : LCommon) (cv fv : Value) (a b : Int) (dt : List UInt8) (da : Option Addr) (dc dn : Nat) (q : SQ) (hqs : ∃ q0, qs = q0 ++ [q]) (hql : qs.length ≤ 1000) :
    Calls Tryz.prog 31 #[.pointer (some ⟨tb, 0, none⟩), commonV c cv fv, callV 11 a b (.slice da dn dc), .pointer (some ⟨kb, 0, none⟩)] w (TOut W tb kb (some (q.1, s.2.dropLast)) w) := by
  have H := Lib.hid h
  obtain ⟨w1, hw1⟩ : ∃ w1, (w.alloc (.cells #[.int .i64 c.version, .int .u64 (c.code : Int), .int .i64 c.offset, .int .i64 c.ret, cv, fv] 36)).alloc (.cells #[.int .i64 11, .int .i64 a, .int .i64 b, .slice da dn dc] 53) = w1 := ⟨_, rfl⟩
  have F1 : Hid (Fr [] w w1) := by rw [← hw1]; exact ((Fr.refl _ _).alloc _).alloc _
  have B0 : Hid (w1.heap[w.heap.size]? = some (.cells #[.int .i64 c.version, .int .u64 (c.code : Int), .int .i64 c.offset, .int .i64 c.ret, cv, fv] 36 (0, 0))) := by rw [← hw1]; exact blk_alloc (blk_new w _)
  have B1 : Hid (w1.heap[w.heap.size + 1]? = some (.cells #[.int .i64 11, .int .i64 a, .int .i64 b, .slice da dn dc] 53 (0, 0))) := by
    have h := blk_new (w.alloc (.cells #[.int .i64 c.version, .int .u64 (c.code : Int), .int .i64 c.offset, .int .i64 c.ret, cv, fv] 36)) (.cells #[.int .i64 11, .int .i64 a, .int .i64 b, .slice da dn dc] 53)
    rw [World.size_alloc, hw1] at h; exact h
  have H1 := Lib.hid (h.idle F1.out)
  have o2 : w1.cell? ⟨w.heap.size, 2, none⟩ = some (.int .i64 c.offset) := by rw [blk_cell B0.out]; rfl
  have x0 : w1.cell? ⟨w.heap.size + 1, 0, none⟩ = some (.int .i64 11) := by rw [blk_cell B1.out]; rfl
  have x1 : w1.cell? ⟨w.heap.size + 1, 1, none⟩ = some (.int .i64 a) := by rw [blk_cell B1.out]; rfl
  have x2 : w1.cell? ⟨w.heap.size + 1, 2, none⟩ = some (.int .i64 b) := by rw [blk_cell B1.out]; rfl
  have x3 : w1.cell? ⟨w.heap.size + 1, 3, none⟩ = some (.slice da dn dc) := by rw [blk_cell B1.out]; rfl
  obtain ⟨q0, rfl⟩ := hqs
  obtain ⟨n, hn⟩ : ∃ n, q0.length = n := ⟨_, rfl⟩
  obtain ⟨ka, kc, rfl⟩ := own_slice H1.out.kr
  have hl : (q0 ++ [q]).length = n + 1 := by rw [List.length_append, hn]; rfl
  rw [hl] at H1 H hql
  have hkr := H1.out.kr
  rw [hl] at hkr
  obtain ⟨g, rfl, hnc, hcm, -⟩ := own_shrink hkr
  unfold maxLen at hcm
  have hc : ∀ i u, (stabs (q0 ++ [q]))[i]? = some u → w1.cell? ⟨g, i, none⟩ = some u := fun i u hu => by
    have := hkr.cells (g := g) rfl i u hu
    rwa [Addr.add_lit, Nat.zero_add] at this
  have hcj : ∀ j u, (stab q.1 q.2.1 q.2.2)[j]? = some u → w1.cell? ⟨g, n * 5 + j, none⟩ = some u := fun j u hu => by
    apply hc
    rw [stabs_app, List.getElem?_append_right (by rw [stabs_len, hn]; omega), stabs_len, hn]
    have e : stabs [q] = stab q.1 q.2.1 q.2.2 := by simp [stabs]
    rw [e, show n * 5 + j - n * 5 = j by omega]; exact hu
  have hqs2 := H1.out.sq q (by simp)
  obtain ⟨⟨⟨⟨qk, qr, qn, qe⟩, qm⟩, ⟨qv, xm⟩⟩, rfl⟩ : ∃ q', q = q' := ⟨q, rfl⟩
  obtain ⟨xa, xc, hqv⟩ := sl_form hqs2.1
  simp only at hqv
  subst hqv
  obtain ⟨xl, hxl⟩ : ∃ xl, qe.length = xl := ⟨_, rfl⟩
  have HXL := Lib.hid hxl
  have d0 : w1.cell? ⟨g, n * 5, none⟩ = some (.int .i64 qk) := hcj 0 _ rfl
  have d1 : w1.cell? ⟨g, n * 5 + 1, none⟩ = some (.int .i64 qr) := hcj 1 _ rfl
  have d2 : w1.cell? ⟨g, n * 5 + 2, none⟩ = some (.int .i64 qn) := hcj 2 _ rfl
  have d3 : w1.cell? ⟨g, n * 5 + 3, none⟩ = some (.slice xa qe.length xc) := hcj 3 _ rfl
  have d4 : w1.cell? ⟨g, n * 5 + 4, none⟩ = some (.map (some xm)) := hcj 4 _ rfl
  simp only [hxl] at d3
  have k0 : w1.cell? ⟨kb, 0, none⟩ = some (.slice (some ⟨g, 0, none⟩) (n + 1) kc) := blk_cell H1.out.hk 0
  have hwm : IntKind.i64.wrap ((n : Int) + 1 - 1) = (n : Int) := by rw [IntWalk.i64_in _ (by omega)]; omega
  have z0 := H1.out.free 0
  have z1 := H1.out.free 1
  have z2 := H1.out.free 2
  have z3 := H1.out.free 3
  have z4 := H1.out.free 4
  have y0 := H1.out.cell 0
  have y1 := H1.out.cell 1
  have y2 := H1.out.cell 2
  have y3 := H1.out.cell 3
  have y4 := H1.out.cell 4
  simp only [stab, List.getElem?_toArray, List.getElem?_cons_zero, List.getElem?_cons_succ] at y0 y1 y2 y3 y4
  have zk : w1.frozen? ⟨kb, 0, none⟩ = false := blk_free H1.out.hk 0
  have HNL := Lib.hid hn
  have HHC := Lib.hid hcj
  clear hc hcj hkr hqs2 hxl hn hl
  have NE0 : Hid (w.heap.size ≠ mb) := H1.out.mp.ne B0.out
  have NE1 : Hid (w.heap.size + 1 ≠ mb) := H1.out.mp.ne B1.out
  have NE2 : Hid (tb ≠ mb) := H1.out.mp.ne H1.out.ht
  unfold commonV callV
  clear h
  go_enter Tryz.func31, Tryz.ntmps31
  go_upto_region 2 with fail
  clear hw1
  go_upto_region 29 with fail
  have b6 := blk_set (blk_set (blk_set (blk_set (blk_set H1.out.ht 0 (.int .i64 qk)) 1 (.int .i64 qr)) 2 (.int .i64 qn)) 3 (.slice xa xl xc)) 4 (.map (some xm))
  have f6 : Fr [tb] w1 (((((w1.setCell ⟨tb, 0, none⟩ (.int .i64 qk)).setCell ⟨tb, 1, none⟩ (.int .i64 qr)).setCell ⟨tb, 2, none⟩ (.int .i64 qn)).setCell ⟨tb, 3, none⟩ (.slice xa xl xc)).setCell ⟨tb, 4, none⟩ (.map (some xm))) := (((((Fr.refl _ _).setCell (.inl (by simp)) _).setCell (.inl (by simp)) _).setCell (.inl (by simp)) _).setCell (.inl (by simp)) _).setCell (.inl (by simp)) _
  generalize (((((w1.setCell ⟨tb, 0, none⟩ (.int .i64 qk)).setCell ⟨tb, 1, none⟩ (.int .i64 qr)).setCell ⟨tb, 2, none⟩ (.int .i64 qn)).setCell ⟨tb, 3, none⟩ (.slice xa xl xc)).setCell ⟨tb, 4, none⟩ (.map (some xm))) = w6 at *
  have hkt : kb ≠ tb := cells_ne H1.out.hk H1.out.ht (by decide)
  have k6 : w6.cell? ⟨kb, 0, none⟩ = some (.slice (some ⟨g, 0, none⟩) (n + 1) kc) := blk_cell (f6.get H1.out.hk (by simpa using hkt)) 0
  have zk6 : w6.frozen? ⟨kb, 0, none⟩ = false := blk_free (f6.get H1.out.hk (by simpa using hkt)) 0
  have B6 := Lib.hid b6
  have F6 := Lib.hid f6
  clear b6 f6 hkt k0 zk y0 y1 y2 y3 y4 z0 z1 z2 z3 z4 d0 d1 d2 d3 d4
  go_wp2_with fail
  go_ret
  refine ⟨rfl, _, _, _, _, TS.pop H1.out HNL.out ?_ F6.out⟩
  have h := B6.out
  rw [← HXL.out] at h
  exact h
end Go.Proofs.YtahohmdfllgedaaGreat

namespace Go.Proofs.YtahohmdfllgedaaGreat
open Go.RowKit

set_option maxRecDepth 100000 in
set_option maxHeartbeats 4000000 in
theorem tc_no {W w : World} {tb mb kb : Nat} {ev kv : Value} {qs : List SQ} {s : LSta} (h : TS W w tb mb ev kb kv qs s) (c : LCommon) (cv fv : Value) (a b : Int) (dt : List UInt8) (da : Option Addr) (dc dn : Nat) (op : Int) (hop : ¬ op = 0 ∧ ¬ op = 128 ∧ ¬ op = 5 ∧ ¬ op = 17 ∧ ¬ op = 20 ∧ ¬ op = 21 ∧ ¬ op = 7 ∧ ¬ op = 8 ∧ ¬ op = 9 ∧ ¬ op = 16 ∧ ¬ op = 22 ∧ ¬ op = 10 ∧ ¬ op = 11 ∧ ¬ op = 12 ∧ ¬ op = 18 ∧ ¬ op = 13 ∧ ¬ op = 14 ∧ ¬ op = 19 ∧ ¬ op = 15) :
    Calls Tryz.prog 31 #[.pointer (some ⟨tb, 0, none⟩), commonV c cv fv, callV op a b (.slice da dn dc), .pointer (some ⟨kb, 0, none⟩)] w (TOut W tb kb none w) := by
  have H := Lib.hid h
  obtain ⟨w1, hw1⟩ : ∃ w1, (w.alloc (.cells #[.int .i64 c.version, .int .u64 (c.code : Int), .int .i64 c.offset, .int .i64 c.ret, cv, fv] 36)).alloc (.cells #[.int .i64 op, .int .i64 a, .int .i64 b, .slice da dn dc] 53) = w1 := ⟨_, rfl⟩
  have F1 : Hid (Fr [] w w1) := by rw [← hw1]; exact ((Fr.refl _ _).alloc _).alloc _
  have B0 : Hid (w1.heap[w.heap.size]? = some (.cells #[.int .i64 c.version, .int .u64 (c.code : Int), .int .i64 c.offset, .int .i64 c.ret, cv, fv] 36 (0, 0))) := by rw [← hw1]; exact blk_alloc (blk_new w _)
  have B1 : Hid (w1.heap[w.heap.size + 1]? = some (.cells #[.int .i64 op, .int .i64 a, .int .i64 b, .slice da dn dc] 53 (0, 0))) := by
    have h := blk_new (w.alloc (.cells #[.int .i64 c.version, .int .u64 (c.code : Int), .int .i64 c.offset, .int .i64 c.ret, cv, fv] 36)) (.cells #[.int .i64 op, .int .i64 a, .int .i64 b, .slice da dn dc] 53)
    rw [World.size_alloc, hw1] at h; exact h
  have H1 := Lib.hid (h.idle F1.out)
  have o2 : w1.cell? ⟨w.heap.size, 2, none⟩ = some (.int .i64 c.offset) := by rw [blk_cell B0.out]; rfl
  have x0 : w1.cell? ⟨w.heap.size + 1, 0, none⟩ = some (.int .i64 op) := by rw [blk_cell B1.out]; rfl
  have x1 : w1.cell? ⟨w.heap.size + 1, 1, none⟩ = some (.int .i64 a) := by rw [blk_cell B1.out]; rfl
  have x2 : w1.cell? ⟨w.heap.size + 1, 2, none⟩ = some (.int .i64 b) := by rw [blk_cell B1.out]; rfl
  have x3 : w1.cell? ⟨w.heap.size + 1, 3, none⟩ = some (.slice da dn dc) := by rw [blk_cell B1.out]; rfl
  obtain ⟨n0, n128, n5, n17, n20, n21, n7, n8, n9, n16, n22, n10, n11, n12, n18, n13, n14, n19, n15⟩ := hop
  have p0 : (op == 0) = false := by rw [beq_eq_false_iff_ne]; exact n0
  have p128 : (op == 128) = false := by rw [beq_eq_false_iff_ne]; exact n128
  have p5 : (op == 5) = false := by rw [beq_eq_false_iff_ne]; exact n5
  have p17 : (op == 17) = false := by rw [beq_eq_false_iff_ne]; exact n17
  have p20 : (op == 20) = false := by rw [beq_eq_false_iff_ne]; exact n20
  have p21 : (op == 21) = false := by rw [beq_eq_false_iff_ne]; exact n21
  have p7 : (op == 7) = false := by rw [beq_eq_false_iff_ne]; exact n7
  have p8 : (op == 8) = false := by rw [beq_eq_false_iff_ne]; exact n8
  have p9 : (op == 9) = false := by rw [beq_eq_false_iff_ne]; exact n9
  have p16 : (op == 16) = false := by rw [beq_eq_false_iff_ne]; exact n16
  have p22 : (op == 22) = false := by rw [beq_eq_false_iff_ne]; exact n22
  have p10 : (op == 10) = false := by rw [beq_eq_false_iff_ne]; exact n10
  have p11 : (op == 11) = false := by rw [beq_eq_false_iff_ne]; exact n11
  have p12 : (op == 12) = false := by rw [beq_eq_false_iff_ne]; exact n12
  have p18 : (op == 18) = false := by rw [beq_eq_false_iff_ne]; exact n18
  have p13 : (op == 13) = false := by rw [beq_eq_false_iff_ne]; exact n13
  have p14 : (op == 14) = false := by rw [beq_eq_false_iff_ne]; exact n14
  have p19 : (op == 19) = false := by rw [beq_eq_false_iff_ne]; exact n19
  have p15 : (op == 15) = false := by rw [beq_eq_false_iff_ne]; exact n15
  clear n0 n128 n5 n17 n20 n21 n7 n8 n9 n16 n22 n10 n11 n12 n18 n13 n14 n19 n15
  have NE0 : Hid (w.heap.size ≠ mb) := H1.out.mp.ne B0.out
  have NE1 : Hid (w.heap.size + 1 ≠ mb) := H1.out.mp.ne B1.out
  have NE2 : Hid (tb ≠ mb) := H1.out.mp.ne H1.out.ht
  unfold commonV callV
  clear h
  go_enter Tryz.func31, Tryz.ntmps31
  go_upto_region 2 with fail
  clear hw1
  go_wp2_with fail
  go_ret
  exact ⟨rfl, H1.out.fr⟩

theorem call_any {W w : World} {tb mb kb : Nat} {ev kv : Value} {qs : List SQ} {s : LSta} (h : TS W w tb mb ev kb kv qs s) (c : LCommon) (cv fv : Value) (a b : Int) (dt : List UInt8) (da : Option Addr) (dc dn : Nat) (op : Int) (hd : Sl W (.slice da dn dc) (vbs dt)) (hq : qs.length ≤ 1000) (hb : (op = 128 ∨ op = 5 ∨ op = 17 ∨ op = 20 ∨ op = 21 ∨ op = 18) → IntKind.i64.wrap (b * c.offset) = b * c.offset) (ha : op = 19 → IntKind.i64.wrap (a * c.offset) = a * c.offset) :
    Calls Tryz.prog 31 #[.pointer (some ⟨tb, 0, none⟩), commonV c cv fv, callV op a b (.slice da dn dc), .pointer (some ⟨kb, 0, none⟩)] w (TOut W tb kb (sCall c.offset ⟨op, a, b, dt⟩ s) w) := by
  unfold sCall
  by_cases o0 : op = 0
  · subst o0
    simpa using tc_0 h c cv fv a b dt da dc dn
  by_cases o128 : op = 128
  · subst o128
    simpa using tc_128 h c cv fv a b dt da dc dn (hb (by decide))
  by_cases o5 : op = 5
  · subst o5
    simpa using tc_5 h c cv fv a b dt da dc dn (hb (by decide))
  by_cases o17 : op = 17
  · subst o17
    simpa using tc_17 h c cv fv a b dt da dc dn (hb (by decide))
  by_cases o20 : op = 20
  · subst o20
    simpa using tc_20 h c cv fv a b dt da dc dn (hb (by decide))
  by_cases o21 : op = 21
  · subst o21
    simpa using tc_21 h c cv fv a b dt da dc dn (hb (by decide))
  by_cases o7 : op = 7
  · subst o7
    simpa using tc_7 h c cv fv a b dt da dc dn
  by_cases o8 : op = 8
  · subst o8
    simpa using tc_8 h c cv fv a b dt da dc dn
  by_cases o9 : op = 9
  · subst o9
    simpa using tc_9 h c cv fv a b dt da dc dn
  by_cases o16 : op = 16
  · subst o16
    simpa using tc_16 h c cv fv a b dt da dc dn hd
  by_cases o22 : op = 22
  · subst o22
    simpa using tc_22 h c cv fv a b dt da dc dn hd
  by_cases o10 : op = 10
  · subst o10
    simpa using tc_10 h c cv fv a b dt da dc dn hq
  by_cases o11 : op = 11
  · subst o11
    by_cases h0 : s.2 = []
    · have x := tc_11_none h c cv fv a b dt da dc dn h0
      simpa [popT, h0] using x
    · have hne : qs ≠ [] := fun e => h0 (by rw [← h.sk, e]; rfl)
      have hqe : qs = qs.dropLast ++ [qs.getLast hne] := (List.dropLast_concat_getLast hne).symm
      have x := tc_11 h c cv fv a b dt da dc dn (qs.getLast hne) ⟨_, hqe⟩ hq
      have hg : s.2.getLast? = some (qs.getLast hne).1 := by
        rw [← h.sk, List.getLast?_map, List.getLast?_eq_some_getLast hne]; rfl
      simpa [popT, hg] using x
  by_cases o12 : op = 12
  · subst o12
    simpa using tc_12 h c cv fv a b dt da dc dn
  by_cases o18 : op = 18
  · subst o18
    simpa using tc_18 h c cv fv a b dt da dc dn (hb (by decide))
  by_cases o13 : op = 13
  · subst o13
    by_cases h7 : s.1.cfa.kind = 7
    · have x := tc_13 h c cv fv a b dt da dc dn h7
      simpa [h7] using x
    · have x := tc_13_none h c cv fv a b dt da dc dn h7
      simpa [h7] using x
  by_cases o14 : op = 14
  · subst o14
    by_cases h7 : s.1.cfa.kind = 7
    · have x := tc_14 h c cv fv a b dt da dc dn h7
      simpa [h7] using x
    · have x := tc_14_none h c cv fv a b dt da dc dn h7
      simpa [h7] using x
  by_cases o19 : op = 19
  · subst o19
    by_cases h7 : s.1.cfa.kind = 7
    · have x := tc_19 h c cv fv a b dt da dc dn h7 (ha rfl)
      simpa [h7] using x
    · have x := tc_19_none h c cv fv a b dt da dc dn h7
      simpa [h7] using x
  by_cases o15 : op = 15
  · subst o15
    simpa using tc_15 h c cv fv a b dt da dc dn hd
  have x := tc_no h c cv fv a b dt da dc dn op ⟨o0, o128, o5, o17, o20, o21, o7, o8, o9, o16, o22, o10, o11, o12, o18, o13, o14, o19, o15⟩
  simpa [o0, o128, o5, o17, o20, o21, o7, o8, o9, o16, o22, o10, o11, o12, o18, o13, o14, o19, o15] using x
end Go.Proofs.YtahohmdfllgedaaGreat

namespace Go.Proofs.YtahohmdfllgedaaGreat
open Go.RowKit

theorem setCell_same2 {w : World} {b i : Nat} {u : Value} {cs : Array Value} {t : TypeId} (h : w.heap[b]? = some (.cells cs t (0, 0))) (hu : cs[i]? = some u) : w.setCell ⟨b, i, none⟩ u = w := by
  have e : (w.setCell ⟨b, i, none⟩ u).heap = w.heap := by
    apply Array.ext_getElem?
    intro j
    by_cases hj : j = b
    · subst hj
      rw [blk_set h i u, h]
      congr 2
      apply Array.ext_getElem?
      intro k
      rw [Array.getElem?_setIfInBounds]
      split
      · rename_i hk; subst hk
        split
        · rw [hu]
        · rename_i h2; rw [Array.getElem?_eq_none (by omega)] at hu; cases hu
      · rfl
    · rw [Below.heap_setCell _ _ _ _ hj]
  have e2 : w.setCell ⟨b, i, none⟩ u = { w with heap := (w.setCell ⟨b, i, none⟩ u).heap } := rfl
  rw [e2, e]
def frameV (f : LFrame) (kv : Value) : Value := .agg #[.int .u64 (f.start : Int), .int .u64 (f.size : Int), kv]
def tabZ : Value := .agg #[.int .i64 0, .int .i64 0, .int .i64 0, .slice none 0 0, .map none]
/-- What spec.Rules leaves. -/
def QOut (o : Option LTab) (w : World) (e : Ending) (w' : World) : Prop :=
  match o with
  | none => e = .returned (.tuple #[tabZ, .bool false]) ∧ Fr [] w w'
  | some t => ∃ ev mb, e = .returned (.tuple #[.agg (stab t ev mb).toArray, .bool true]) ∧ Sl w' ev (vbs t.cfa.expr) ∧ SMapR w' w' mb t.rules ∧ Fr [] w w'

set_option maxRecDepth 100000 in
set_option maxHeartbeats 4000000 in
theorem Rules_out (w : World) (c : LCommon) (cv fv kv : Value) (f : LFrame) (pc : Nat) (hf : f.start < 18446744073709551616 ∧ f.size < 18446744073709551616) (hp : pc < 18446744073709551616) (h : pc < f.start ∨ f.start + f.size ≤ pc) :
    Calls Tryz.prog 11 #[commonV c cv fv, frameV f kv, .int .u64 (pc : Int)] w (QOut none w) := by
  unfold commonV frameV
  obtain ⟨w3, hw3⟩ : ∃ w3, ((w.alloc (.cells #[.int .i64 c.version, .int .u64 (c.code : Int), .int .i64 c.offset, .int .i64 c.ret, cv, fv] 36)).alloc (.cells #[.int .u64 (f.start : Int), .int .u64 (f.size : Int), kv] 38)).alloc (.cells #[.int .i64 0, .int .i64 0, .int .i64 0, .slice none 0 0, .map none] 42) = w3 := ⟨_, rfl⟩
  have F3 : Hid (Fr [] w w3) := by rw [← hw3]; exact (((Fr.refl _ _).alloc _).alloc _).alloc _
  have BZ : Hid (w3.heap[w.heap.size + 1 + 1]? = some (.cells #[.int .i64 0, .int .i64 0, .int .i64 0, .slice none 0 0, .map none] 42 (0, 0))) := by
    have h := blk_new ((w.alloc (.cells #[.int .i64 c.version, .int .u64 (c.code : Int), .int .i64 c.offset, .int .i64 c.ret, cv, fv] 36)).alloc (.cells #[.int .u64 (f.start : Int), .int .u64 (f.size : Int), kv] 38)) (.cells #[.int .i64 0, .int .i64 0, .int .i64 0, .slice none 0 0, .map none] 42)
    rw [World.size_alloc, World.size_alloc, hw3] at h; exact h
  have BF : Hid (w3.heap[w.heap.size + 1]? = some (.cells #[.int .u64 (f.start : Int), .int .u64 (f.size : Int), kv] 38 (0, 0))) := by
    have h := blk_new (w.alloc (.cells #[.int .i64 c.version, .int .u64 (c.code : Int), .int .i64 c.offset, .int .i64 c.ret, cv, fv] 36)) (.cells #[.int .u64 (f.start : Int), .int .u64 (f.size : Int), kv] 38)
    rw [World.size_alloc] at h; rw [← hw3]; exact blk_alloc h
  have r0 : w3.cell? ⟨w.heap.size + 1 + 1, 0, none⟩ = some (.int .i64 0) := blk_cell BZ.out 0
  have r1 : w3.cell? ⟨w.heap.size + 1 + 1, 1, none⟩ = some (.int .i64 0) := blk_cell BZ.out 1
  have r2 : w3.cell? ⟨w.heap.size + 1 + 1, 2, none⟩ = some (.int .i64 0) := blk_cell BZ.out 2
  have r3 : w3.cell? ⟨w.heap.size + 1 + 1, 3, none⟩ = some (.slice none 0 0) := blk_cell BZ.out 3
  have r4 : w3.cell? ⟨w.heap.size + 1 + 1, 4, none⟩ = some (.map none) := blk_cell BZ.out 4
  have q0 : w3.cell? ⟨w.heap.size + 1, 0, none⟩ = some (.int .u64 (f.start : Int)) := blk_cell BF.out 0
  have q1 : w3.cell? ⟨w.heap.size + 1, 1, none⟩ = some (.int .u64 (f.size : Int)) := blk_cell BF.out 1
  have y0 : w3.frozen? ⟨w.heap.size + 1 + 1, 0, none⟩ = false := blk_free BZ.out 0
  have y1 : w3.frozen? ⟨w.heap.size + 1 + 1, 1, none⟩ = false := blk_free BZ.out 1
  have y2 : w3.frozen? ⟨w.heap.size + 1 + 1, 2, none⟩ = false := blk_free BZ.out 2
  have y3 : w3.frozen? ⟨w.heap.size + 1 + 1, 3, none⟩ = false := blk_free BZ.out 3
  have y4 : w3.frozen? ⟨w.heap.size + 1 + 1, 4, none⟩ = false := blk_free BZ.out 4
  have s0 : w3.setCell ⟨w.heap.size + 1 + 1, 0, none⟩ (.int .i64 0) = w3 := setCell_same2 BZ.out rfl
  have s1 : w3.setCell ⟨w.heap.size + 1 + 1, 1, none⟩ (.int .i64 0) = w3 := setCell_same2 BZ.out rfl
  have s2 : w3.setCell ⟨w.heap.size + 1 + 1, 2, none⟩ (.int .i64 0) = w3 := setCell_same2 BZ.out rfl
  have s3 : w3.setCell ⟨w.heap.size + 1 + 1, 3, none⟩ (.slice none 0 0) = w3 := setCell_same2 BZ.out rfl
  have s4 : w3.setCell ⟨w.heap.size + 1 + 1, 4, none⟩ (.map none) = w3 := setCell_same2 BZ.out rfl
  by_cases hlt : pc < f.start
  · have e1 : decide ((pc : Int) < (f.start : Int)) = true := by simp; exact hlt
    go_enter Tryz.func11, Tryz.ntmps11
    go_wp2_with fail
    refine bodyPost_ret (v := .tuple #[tabZ, .bool false]) (by simp [results, Tryz.results11, go_sem, tabZ, r0, r1, r2, r3, r4]) rfl ?_
    exact ⟨rfl, F3.out⟩
  · have e1 : decide ((pc : Int) < (f.start : Int)) = false := by simp; omega
    have e2 : IntKind.u64.wrap ((pc : Int) - (f.start : Int)) = (pc : Int) - (f.start : Int) := by rw [IntKind.wrap_u64]; omega
    have e3 : decide ((f.size : Int) ≤ (pc : Int) - (f.start : Int)) = true := by simp; omega
    go_enter Tryz.func11, Tryz.ntmps11
    go_wp2_with fail
    refine bodyPost_ret (v := .tuple #[tabZ, .bool false]) (by simp [results, Tryz.results11, go_sem, tabZ, r0, r1, r2, r3, r4]) rfl ?_
    exact ⟨rfl, F3.out⟩
end Go.Proofs.YtahohmdfllgedaaGreat

namespace Go.Proofs.YtahohmdfllgedaaGreat
open Go.RowKit

theorem Sl.off {w w' : World} {v : Value} {l : List UInt8} {b : Nat} {cs : Array Value} {t : TypeId} (h : Sl w v (vbs l)) (hb : w.heap[b]? = some (.cells cs t (0, 0))) (hc : ∀ (i : Nat) (n : Int), cs[i]? ≠ some (.int .u8 n)) (f : Fr [b] w w') : Sl w' v (vbs l) := by
  cases l with
  | nil =>
    rcases h with h | ⟨x, c, h1, h2, h3, -⟩
    · exact .inl h
    · exact .inr ⟨x, c, h1, h2, h3, fun i u hi => by simp [vbs] at hi⟩
  | cons y ys =>
    obtain ⟨g, o, c, rfl, -, -, hcell⟩ := sl_some h (by simp [vbs])
    refine h.fr f (fun g' hg' => ?_)
    have e : g = g' := by simpa [Value.ownBlock] using hg'
    subst e
    simp only [List.mem_singleton]
    rintro rfl
    have := hcell.cell (i := 0) (v := .int .u8 (y.toNat : Int)) (by simp [vbs])
    rw [blk_cell hb] at this
    exact hc _ _ this
theorem sCall_some_len {off : Int} {x : LCall} {s s' : LSta} (h : sCall off x s = some s') : s'.2.length ≤ s.2.length + 1 := by
  have hp : ∀ {t}, popT s = some t → t.2.length ≤ s.2.length + 1 := fun {t} ht => by
    unfold popT at ht
    split at ht
    · cases ht
    · obtain rfl := Option.some.inj ht; simp; omega
  have h0 : ∀ {q : LSta}, (some q : Option LSta) = some s' → q.2.length ≤ s.2.length + 1 → s'.2.length ≤ s.2.length + 1 := fun e hq => by obtain rfl := Option.some.inj e; exact hq
  unfold sCall at h
  iterate 12 (rcases ite_or h with ⟨-, h⟩ | h; · (first | exact hp h | exact h0 h (by simp)))
  rcases ite_or h with ⟨-, h⟩ | h
  · rcases ite_or h with ⟨-, h⟩ | h
    · exact h0 h (by simp)
    · cases h
  rcases ite_or h with ⟨-, h⟩ | h
  · exact h0 h (by simp)
  · cases h
/-- The table that is handed out. -/
theorem tab_out {w w3 wr w' : World} {tb mb kb : Nat} {ev kv : Value} {qs : List SQ} {s : LSta} {b : Nat} (h : TS w3 wr tb mb ev kb kv qs s) (f3 : Fr [] w w3) (hb : w3.heap[b]? = some (.cells #[.int .i64 0, .int .i64 0, .int .i64 0, .slice none 0 0, .map none] 42 (0, 0))) (hwb : w.heap.size ≤ b) (f : Fr [b] wr w') :
    Sl w' ev (vbs s.1.cfa.expr) ∧ SMapR w' w' mb s.1.rules ∧ Fr [] w w' := by
  have hc : ∀ (i : Nat) (n : Int), (#[.int .i64 0, .int .i64 0, .int .i64 0, .slice none 0 0, .map none] : Array Value)[i]? ≠ some (.int .u8 n) := by
    intro i n
    rcases i with _ | _ | _ | _ | _ | i <;> simp
  have f4 : Fr [b] w3 w' := (h.fr.mono (by simp)).trans f (fun i hi _ => hi)
  have hm := h.mp
  obtain ⟨g, h1, h2⟩ := hm
  have hne : mb ∉ [b] := by
    have := h.mp.ne (h.fr.get hb (by simp))
    simp; exact fun e => this e.symm
  refine ⟨h.cf.off hb hc f4, ⟨g, h1.fr f hne, fun k => (h2 k).imp id ?_⟩, f3.trans f4 (fun i hi hlt => by simp at hi; omega)⟩
  rintro ⟨r, v, a1, a2, ev', a3, a4⟩
  exact ⟨r, v, a1, a2, ev', a3, a4.off hb hc f4⟩

noncomputable def rulesReg : Code := headOf ((Tryz.f11.body.bind (tailAt 11)).getD .skip)
noncomputable def rulesRest : Code := restOf ((Tryz.f11.body.bind (tailAt 11)).getD .skip)

set_option maxRecDepth 100000 in
set_option maxHeartbeats 8000000 in
theorem Rules_tail (W0 w w3 wc : World) (c : LCommon) (f : LFrame) (ca fa : Option Addr) (cc fc : Nat) (fv : Value) (pc tb mb kb : Nat) (ev kv : Value) (qs : List SQ) (s : LSta) (h00 : Fr [] W0 w) (hfs : RSl 4 (RCall W0) W0 (.slice fa f.calls.length fc) f.calls) (hr : rcB c = true) (hfr : frB f = true) (h : f.start ≤ pc ∧ pc < f.start + f.size)
    (f3 : Fr [] w w3) (bc : w3.heap[w.heap.size]? = some (.cells #[.int .i64 c.version, .int .u64 (c.code : Int), .int .i64 c.offset, .int .i64 c.ret, .slice ca c.calls.length cc, fv] 36 (0, 0))) (bf : w3.heap[w.heap.size + 1]? = some (.cells #[.int .u64 (f.start : Int), .int .u64 (f.size : Int), .slice fa f.calls.length fc] 38 (0, 0))) (bz : w3.heap[w.heap.size + 1 + 1]? = some (.cells #[.int .i64 0, .int .i64 0, .int .i64 0, .slice none 0 0, .map none] 42 (0, 0))) (hts : TS w3 wc tb mb ev kb kv qs s) (hq : qs.length ≤ 20)
    (o : Option LTab) (ho : ((sFde c.code c.offset pc f.start f.calls s).map (·.1)) = o) (K : Act → World → Prop) (hK : ∀ a w', Code.wp Tryz.prog rulesRest (bodyPost Tryz.prog Tryz.f11 (QOut o w)) a w' → K a w')
    (s5 s7 s10 s11 s12 s13 s14 s15 s16 s17 s18 s19 s20 s21 s22 s23 s24 s25 s26 s27 s28 s29 s30 s31 s32 s33 s34 s35 s36 s37 s38 s39 s40 s41 s42 s43 s44 s45 s46 s47 s48 s49 s50 s51 s52 s53 s54 s55 s56 s57 s58 s59 s60 s61 s62 s63 s64 s65 s66 s67 s68 s69 s70 s71 s72 s73 s74 s75 s76 s77 s78 s79 s80 s81 s82 s83 s84 s85 s86 s87 s88 s89 : Value) :
    Code.wp Tryz.prog rulesReg (Exit.then K (bodyPost Tryz.prog Tryz.f11 (QOut o w))) ⟨(commonV c (.slice ca c.calls.length cc) fv :: frameV f (.slice fa f.calls.length fc) :: .int .u64 (pc : Int) :: .pointer (some ⟨w.heap.size, 0, none⟩) :: .pointer (some ⟨w.heap.size + 1, 0, none⟩) :: s5 :: .pointer (some ⟨w.heap.size + 1 + 1, 0, none⟩) :: s7 :: .pointer (some ⟨tb, 0, none⟩) :: .pointer (some ⟨kb, 0, none⟩) :: s10 :: s11 :: s12 :: s13 :: s14 :: s15 :: s16 :: s17 :: s18 :: s19 :: s20 :: s21 :: s22 :: s23 :: s24 :: s25 :: s26 :: s27 :: s28 :: s29 :: s30 :: s31 :: s32 :: s33 :: s34 :: s35 :: s36 :: s37 :: s38 :: s39 :: s40 :: s41 :: s42 :: s43 :: s44 :: s45 :: s46 :: s47 :: s48 :: s49 :: s50 :: s51 :: s52 :: s53 :: s54 :: s55 :: s56 :: s57 :: s58 :: s59 :: s60 :: s61 :: s62 :: s63 :: s64 :: s65 :: s66 :: s67 :: s68 :: s69 :: s70 :: s71 :: s72 :: s73 :: s74 :: s75 :: s76 :: s77 :: s78 :: s79 :: s80 :: s81 :: s82 :: s83 :: s84 :: s85 :: s86 :: s87 :: s88 :: s89 :: []).toArray, []⟩ wc := by
  subst ho
  have HFS := Lib.hid hfs
  have H00 := Lib.hid h00
  have Hr := Lib.hid hr
  have Hfr := Lib.hid hfr
  have Hp := Lib.hid h
  have F3 := Lib.hid f3
  have BC := Lib.hid bc
  have BF := Lib.hid bf
  have HTS := Lib.hid hts
  have HQ := Lib.hid hq
  obtain ⟨R, hR⟩ : ∃ R, w.heap.size + 1 + 1 = R := ⟨_, rfl⟩
  obtain ⟨Q, hQ⟩ : ∃ Q, w.heap.size + 1 = Q := ⟨_, rfl⟩
  rw [hR] at bz
  have BZ := Lib.hid bz
  have HRW : Hid (w.heap.size ≤ R) := by show _ ≤ _; omega
  simp only [hR]
  rw [hQ] at BF
  simp only [hQ]
  have q0 : wc.cell? ⟨Q, 0, none⟩ = some (.int .u64 (f.start : Int)) := blk_cell (hts.fr.get BF.out (by simp)) 0
  have q2 : wc.cell? ⟨Q, 2, none⟩ = some (.slice fa f.calls.length fc) := blk_cell (hts.fr.get BF.out (by simp)) 2
  clear h00 hfs hr hfr h f3 bc bf bz hts hq hR hQ
  unfold commonV frameV
  conv => arg 2; whnf
  conv at hK => ext a w'; arg 1; arg 2; whnf
  go_wp2_with fail
  clear q0 q2
  go_loopw [12, 50] (fun at_ i wr => ∃ (k loc : Nat) (s2 : LSta) (mb2 : Nat) (ev2 kv2 : Value) (qs2 : List SQ), k ≤ f.calls.length ∧ i = .int .i64 (k : Int) ∧ at_ = .int .u64 (loc : Int) ∧ loc ≤ pc ∧ sFde c.code c.offset pc loc (f.calls.drop k) s2 = sFde c.code c.offset pc f.start f.calls s ∧ qs2.length ≤ 20 + k ∧ TS w3 wr tb mb2 ev2 kb kv2 qs2 s2) (fun _ i _ => f.calls.length - (intOf i).toNat)
  case atStart => exact ⟨0, _, _, _, _, _, _, Nat.zero_le _, rfl, rfl, Hp.out.1, rfl, by have := HQ.out; omega, HTS.out⟩
  case round =>
    obtain ⟨k, loc, s2, mb2, ev2, kv2, qs2, hk, rfl, rfl, hloc, hrun, hql, hts2⟩ := hrel
    have HTS2 := Lib.hid hts2
    have HRUN := Lib.hid hrun
    have HLOC := Lib.hid hloc
    clear hts2 hrun
    have hcl : f.calls.length ≤ 40 := (fr_facts Hfr.out).2.2.2.1
    by_cases hlt : k < f.calls.length
    · obtain ⟨g, o, da, dc, rfl, d0, d1, d2, d3, hd, i0, i1, i2⟩ := call_at HFS.out ((H00.out.then F3.out).then HTS2.out.fr) k hlt
      obtain ⟨x, hx⟩ : ∃ x, f.calls[k] = x := ⟨_, rfl⟩
      have hcx : cfB x = true := by rw [← hx]; exact (fr_facts Hfr.out).2.2.2.2 _ (List.getElem_mem hlt)
      have hdr : f.calls.drop k = x :: f.calls.drop (k + 1) := by rw [List.drop_eq_getElem_cons hlt, hx]
      rw [hx] at d0 d1 d2 d3 hd i0 i1 i2
      have HDR := Lib.hid hdr
      have HCX : Hid (crB x = true) := by have := hcx; simp only [cfB, Bool.and_eq_true] at this; exact this.1
      have HD := Lib.hid (hd.fr (H00.out.then F3.out) (fun _ _ h => by cases h))
      clear hx hd hdr hcx
      obtain ⟨op, a, b, dt⟩ := x
      simp only at d0 d1 d2 d3 i0 i1 i2
      have HI1 := Lib.hid i1
      clear i0 i1 i2
      go_upto_region 15 with fail
      have hb7 := blk_new wr (.cells #[.int .i64 op, .int .i64 a, .int .i64 b, .slice da dt.length dc] 53)
      have hf7 : Fr [] wr (wr.alloc (.cells #[.int .i64 op, .int .i64 a, .int .i64 b, .slice da dt.length dc] 53)) := (Fr.refl _ _).alloc _
      generalize wr.alloc (.cells #[.int .i64 op, .int .i64 a, .int .i64 b, .slice da dt.length dc] 53) = w7 at *
      have HT7 := Lib.hid (HTS2.out.idle hf7)
      have m0 : w7.cell? ⟨wr.heap.size, 0, none⟩ = some (.int .i64 op) := blk_cell hb7 0
      have m1 : w7.cell? ⟨wr.heap.size, 1, none⟩ = some (.int .i64 a) := blk_cell hb7 1
      have m2 : w7.cell? ⟨wr.heap.size, 2, none⟩ = some (.int .i64 b) := blk_cell hb7 2
      have m3 : w7.cell? ⟨wr.heap.size, 3, none⟩ = some (.slice da dt.length dc) := blk_cell hb7 3
      have HB7 := Lib.hid hb7
      clear hb7 hf7 d0 d1 d2 d3
      cases hmv : movesB op with
      | true =>
        have HMV := Lib.hid hmv
        clear hmv
        go_upto_region 16 with (go_at_call 15; go_must (refine (moves_any op a b da dt.length dc w7).mono ?_); rw [HMV.out]; rintro e w8 ⟨rfl, hf8⟩; have F8 := Lib.hid hf8; clear hf8)
        have h8 := HT7.out.idle F8.out
        have HT8 := Lib.hid h8
        have c1 : w8.cell? ⟨w.heap.size, 1, none⟩ = some (.int .u64 (c.code : Int)) := blk_cell (h8.fr.get BC.out (by simp)) 1
        have b8 := F8.out.get HB7.out (by simp)
        have n0 : w8.cell? ⟨wr.heap.size, 0, none⟩ = some (.int .i64 op) := blk_cell b8 0
        have n1 : w8.cell? ⟨wr.heap.size, 1, none⟩ = some (.int .i64 a) := blk_cell b8 1
        have HB8 := Lib.hid b8
        clear h8 b8 m0 m1 m2 m3
        obtain ⟨nx, hnx⟩ : ∃ nx, nextLoc c.code ⟨op, a, b, dt⟩ loc = nx := ⟨_, rfl⟩
        have HNX := Lib.hid hnx
        have hnl : nx < 18446744073709551616 := by
          rw [← hnx]; unfold nextLoc; simp only
          split
          · exact u64of_lt _
          · rename_i ho
            have hm := crb_move HCX.out HMV.out ho
            obtain ⟨n, hn⟩ := Int.eq_ofNat_of_zero_le hm.1
            have := fr_facts Hfr.out
            have := Hp.out
            have := HLOC.out
            exact lt_mul (by omega) (rc_facts Hr.out).2.2.1 (by omega)
        by_cases ho : op = 1
        · subst ho
          have e1 : IntKind.u64.wrap a = (nx : Int) := by rw [IntKind.wrap_u64, ← hnx]; exact u64of_cast a
          clear hnx
          by_cases hle : nx ≤ loc
          · have q1 : decide ((nx : Int) ≤ (loc : Int)) = true := by simp; exact hle
            have q2 : decide (nx ≤ loc) = true := by simp; exact hle
            have HLE := Lib.hid hle
            clear hle
            have hz := (HT8.out.fr).get BZ.out (by simp)
            have r0 : w8.cell? ⟨R, 0, none⟩ = some (.int .i64 0) := blk_cell hz 0
            have y0 : w8.frozen? ⟨R, 0, none⟩ = false := blk_free hz 0
            have z0 : w8.setCell ⟨R, 0, none⟩ (.int .i64 0) = w8 := setCell_same2 hz rfl
            have r1 : w8.cell? ⟨R, 1, none⟩ = some (.int .i64 0) := blk_cell hz 1
            have y1 : w8.frozen? ⟨R, 1, none⟩ = false := blk_free hz 1
            have z1 : w8.setCell ⟨R, 1, none⟩ (.int .i64 0) = w8 := setCell_same2 hz rfl
            have r2 : w8.cell? ⟨R, 2, none⟩ = some (.int .i64 0) := blk_cell hz 2
            have y2 : w8.frozen? ⟨R, 2, none⟩ = false := blk_free hz 2
            have z2 : w8.setCell ⟨R, 2, none⟩ (.int .i64 0) = w8 := setCell_same2 hz rfl
            have r3 : w8.cell? ⟨R, 3, none⟩ = some (.slice none 0 0) := blk_cell hz 3
            have y3 : w8.frozen? ⟨R, 3, none⟩ = false := blk_free hz 3
            have z3 : w8.setCell ⟨R, 3, none⟩ (.slice none 0 0) = w8 := setCell_same2 hz rfl
            have r4 : w8.cell? ⟨R, 4, none⟩ = some (.map none) := blk_cell hz 4
            have y4 : w8.frozen? ⟨R, 4, none⟩ = false := blk_free hz 4
            have z4 : w8.setCell ⟨R, 4, none⟩ (.map none) = w8 := setCell_same2 hz rfl
            clear hz
            go_wp2_with fail
            refine bodyPost_ret (v := .tuple #[tabZ, .bool false]) (by simp [results, Tryz.results11, go_sem, tabZ, r0, r1, r2, r3, r4]) rfl ?_
            have e : sFde c.code c.offset pc f.start f.calls s = none := by rw [← HRUN.out, HDR.out, sFde, if_pos HMV.out, HNX.out, if_pos ⟨rfl, HLE.out⟩]
            rw [e]
            exact ⟨rfl, F3.out.then (HT8.out.fr)⟩
          · have q1 : decide ((nx : Int) ≤ (loc : Int)) = false := by simp; omega
            have q2 : decide (nx ≤ loc) = false := by simp; omega
            have HLE := Lib.hid hle
            clear hle
            by_cases hpc : pc < nx
            · have q3 : decide ((pc : Int) < (nx : Int)) = true := by simp; exact hpc
              have q4 : decide (pc < nx) = true := by simp; exact hpc
              have HPC := Lib.hid hpc
              clear hpc
              have hcf := HT8.out.cf
              obtain ⟨ea, ec, hev⟩ := sl_form hcf
              obtain ⟨el, hel⟩ : ∃ el, s2.1.cfa.expr.length = el := ⟨_, rfl⟩
              rw [hel] at hev
              subst hev
              clear hel hcf
              have htb := HT8.out.ht
              have t0 : w8.cell? ⟨tb, 0, none⟩ = some (.int .i64 s2.1.cfa.kind) := blk_cell htb 0
              have t1 : w8.cell? ⟨tb, 1, none⟩ = some (.int .i64 s2.1.cfa.reg) := blk_cell htb 1
              have t2 : w8.cell? ⟨tb, 2, none⟩ = some (.int .i64 s2.1.cfa.n) := blk_cell htb 2
              have t3 : w8.cell? ⟨tb, 3, none⟩ = some (.slice ea el ec) := blk_cell htb 3
              have t4 : w8.cell? ⟨tb, 4, none⟩ = some (.map (some mb2)) := blk_cell htb 4
              clear htb
              have hz : w8.heap[R]? = some (.cells #[.int .i64 0, .int .i64 0, .int .i64 0, .slice none 0 0, .map none] 42 (0, 0)) := HT8.out.fr.get BZ.out (by simp)
              have y0 : w8.frozen? ⟨R, 0, none⟩ = false := blk_free hz 0
              have x0 : w8.cell? ⟨R, 0, none⟩ = some (.int .i64 0) := blk_cell hz 0
              have y1 : w8.frozen? ⟨R, 1, none⟩ = false := blk_free hz 1
              have x1 : w8.cell? ⟨R, 1, none⟩ = some (.int .i64 0) := blk_cell hz 1
              have y2 : w8.frozen? ⟨R, 2, none⟩ = false := blk_free hz 2
              have x2 : w8.cell? ⟨R, 2, none⟩ = some (.int .i64 0) := blk_cell hz 2
              have y3 : w8.frozen? ⟨R, 3, none⟩ = false := blk_free hz 3
              have x3 : w8.cell? ⟨R, 3, none⟩ = some (.slice none 0 0) := blk_cell hz 3
              have y4 : w8.frozen? ⟨R, 4, none⟩ = false := blk_free hz 4
              have x4 : w8.cell? ⟨R, 4, none⟩ = some (.map none) := blk_cell hz 4
              have HZ := Lib.hid hz
              clear hz
              go_wp2_with fail
              have f6 : Fr [R] w8 (((((w8.setCell ⟨R, 0, none⟩ (.int .i64 s2.1.cfa.kind)).setCell ⟨R, 1, none⟩ (.int .i64 s2.1.cfa.reg)).setCell ⟨R, 2, none⟩ (.int .i64 s2.1.cfa.n)).setCell ⟨R, 3, none⟩ (.slice ea el ec)).setCell ⟨R, 4, none⟩ (.map (some mb2))) := (((((Fr.refl _ _).setCell (.inl (by simp)) _).setCell (.inl (by simp)) _).setCell (.inl (by simp)) _).setCell (.inl (by simp)) _).setCell (.inl (by simp)) _
              have b6 : (((((w8.setCell ⟨R, 0, none⟩ (.int .i64 s2.1.cfa.kind)).setCell ⟨R, 1, none⟩ (.int .i64 s2.1.cfa.reg)).setCell ⟨R, 2, none⟩ (.int .i64 s2.1.cfa.n)).setCell ⟨R, 3, none⟩ (.slice ea el ec)).setCell ⟨R, 4, none⟩ (.map (some mb2))).heap[R]? = some (.cells #[.int .i64 s2.1.cfa.kind, .int .i64 s2.1.cfa.reg, .int .i64 s2.1.cfa.n, .slice ea el ec, .map (some mb2)] 42 (0, 0)) := blk_set (blk_set (blk_set (blk_set (blk_set HZ.out 0 _) 1 _) 2 _) 3 _) 4 _
              generalize (((((w8.setCell ⟨R, 0, none⟩ (.int .i64 s2.1.cfa.kind)).setCell ⟨R, 1, none⟩ (.int .i64 s2.1.cfa.reg)).setCell ⟨R, 2, none⟩ (.int .i64 s2.1.cfa.n)).setCell ⟨R, 3, none⟩ (.slice ea el ec)).setCell ⟨R, 4, none⟩ (.map (some mb2))) = w6 at *
              have r0 : w6.cell? ⟨R, 0, none⟩ = some (.int .i64 s2.1.cfa.kind) := by rw [blk_cell b6]; rfl
              have r1 : w6.cell? ⟨R, 1, none⟩ = some (.int .i64 s2.1.cfa.reg) := by rw [blk_cell b6]; rfl
              have r2 : w6.cell? ⟨R, 2, none⟩ = some (.int .i64 s2.1.cfa.n) := by rw [blk_cell b6]; rfl
              have r3 : w6.cell? ⟨R, 3, none⟩ = some (.slice ea el ec) := by rw [blk_cell b6]; rfl
              have r4 : w6.cell? ⟨R, 4, none⟩ = some (.map (some mb2)) := by rw [blk_cell b6]; rfl
              refine bodyPost_ret (v := .tuple #[.agg #[.int .i64 s2.1.cfa.kind, .int .i64 s2.1.cfa.reg, .int .i64 s2.1.cfa.n, .slice ea el ec, .map (some mb2)], .bool true]) (by simp [results, Tryz.results11, go_sem, r0, r1, r2, r3, r4]) rfl ?_
              have e : sFde c.code c.offset pc f.start f.calls s = some s2 := by rw [← HRUN.out, HDR.out, sFde, if_pos HMV.out, HNX.out, if_neg (by have := HLE.out; omega), if_pos HPC.out]
              rw [e]
              obtain ⟨o1, o2, o3⟩ := tab_out HT8.out F3.out BZ.out HRW.out f6
              exact ⟨_, mb2, rfl, o1, o2, o3⟩
            · have q3 : decide ((pc : Int) < (nx : Int)) = false := by simp; omega
              have q4 : decide (pc < nx) = false := by simp; omega
              have HPC := Lib.hid hpc
              clear hpc
              go_wp2_with fail
              go_roundw
              case rel => exact ⟨k + 1, nx, s2, mb2, ev2, kv2, qs2, by omega, by go_num, rfl, by have := HPC.out; omega, by rw [← HRUN.out, HDR.out, sFde, if_pos HMV.out, HNX.out, if_neg (by have := HLE.out; omega), if_neg HPC.out], by omega, HT8.out⟩
              case measure => simp [intOf]; omega
        · have q1 : ((op : Int) == 1) = false := by simp; exact ho
          have e1 : IntKind.u64.wrap ((loc : Int) + IntKind.u64.wrap ((c.code : Int) * IntKind.u64.wrap a)) = (nx : Int) := by
            have hm := crb_move HCX.out HMV.out ho
            have h1 := fr_facts Hfr.out
            have h2 := Hp.out
            have h3 := HLOC.out
            rw [next_u64 (by omega) (rc_facts Hr.out).2.2.1 hm, ← hnx]; simp [nextLoc, ho]
          have HO := Lib.hid ho
          clear hnx ho
          by_cases hpc : pc < nx
          · have q3 : decide ((pc : Int) < (nx : Int)) = true := by simp; exact hpc
            have q4 : decide (pc < nx) = true := by simp; exact hpc
            have HPC := Lib.hid hpc
            clear hpc
            by_cases hle : nx ≤ loc
            · have q5 : decide ((nx : Int) ≤ (loc : Int)) = true := by simp; exact hle
              have q6 : decide (nx ≤ loc) = true := by simp; exact hle
              clear hle
              have hcf := HT8.out.cf
              obtain ⟨ea, ec, hev⟩ := sl_form hcf
              obtain ⟨el, hel⟩ : ∃ el, s2.1.cfa.expr.length = el := ⟨_, rfl⟩
              rw [hel] at hev
              subst hev
              clear hel hcf
              have htb := HT8.out.ht
              have t0 : w8.cell? ⟨tb, 0, none⟩ = some (.int .i64 s2.1.cfa.kind) := blk_cell htb 0
              have t1 : w8.cell? ⟨tb, 1, none⟩ = some (.int .i64 s2.1.cfa.reg) := blk_cell htb 1
              have t2 : w8.cell? ⟨tb, 2, none⟩ = some (.int .i64 s2.1.cfa.n) := blk_cell htb 2
              have t3 : w8.cell? ⟨tb, 3, none⟩ = some (.slice ea el ec) := blk_cell htb 3
              have t4 : w8.cell? ⟨tb, 4, none⟩ = some (.map (some mb2)) := blk_cell htb 4
              clear htb
              have hz : w8.heap[R]? = some (.cells #[.int .i64 0, .int .i64 0, .int .i64 0, .slice none 0 0, .map none] 42 (0, 0)) := HT8.out.fr.get BZ.out (by simp)
              have y0 : w8.frozen? ⟨R, 0, none⟩ = false := blk_free hz 0
              have x0 : w8.cell? ⟨R, 0, none⟩ = some (.int .i64 0) := blk_cell hz 0
              have y1 : w8.frozen? ⟨R, 1, none⟩ = false := blk_free hz 1
              have x1 : w8.cell? ⟨R, 1, none⟩ = some (.int .i64 0) := blk_cell hz 1
              have y2 : w8.frozen? ⟨R, 2, none⟩ = false := blk_free hz 2
              have x2 : w8.cell? ⟨R, 2, none⟩ = some (.int .i64 0) := blk_cell hz 2
              have y3 : w8.frozen? ⟨R, 3, none⟩ = false := blk_free hz 3
              have x3 : w8.cell? ⟨R, 3, none⟩ = some (.slice none 0 0) := blk_cell hz 3
              have y4 : w8.frozen? ⟨R, 4, none⟩ = false := blk_free hz 4
              have x4 : w8.cell? ⟨R, 4, none⟩ = some (.map none) := blk_cell hz 4
              have HZ := Lib.hid hz
              clear hz
              go_wp2_with fail
              have f6 : Fr [R] w8 (((((w8.setCell ⟨R, 0, none⟩ (.int .i64 s2.1.cfa.kind)).setCell ⟨R, 1, none⟩ (.int .i64 s2.1.cfa.reg)).setCell ⟨R, 2, none⟩ (.int .i64 s2.1.cfa.n)).setCell ⟨R, 3, none⟩ (.slice ea el ec)).setCell ⟨R, 4, none⟩ (.map (some mb2))) := (((((Fr.refl _ _).setCell (.inl (by simp)) _).setCell (.inl (by simp)) _).setCell (.inl (by simp)) _).setCell (.inl (by simp)) _).setCell (.inl (by simp)) _
              have b6 : (((((w8.setCell ⟨R, 0, none⟩ (.int .i64 s2.1.cfa.kind)).setCell ⟨R, 1, none⟩ (.int .i64 s2.1.cfa.reg)).setCell ⟨R, 2, none⟩ (.int .i64 s2.1.cfa.n)).setCell ⟨R, 3, none⟩ (.slice ea el ec)).setCell ⟨R, 4, none⟩ (.map (some mb2))).heap[R]? = some (.cells #[.int .i64 s2.1.cfa.kind, .int .i64 s2.1.cfa.reg, .int .i64 s2.1.cfa.n, .slice ea el ec, .map (some mb2)] 42 (0, 0)) := blk_set (blk_set (blk_set (blk_set (blk_set HZ.out 0 _) 1 _) 2 _) 3 _) 4 _
              generalize (((((w8.setCell ⟨R, 0, none⟩ (.int .i64 s2.1.cfa.kind)).setCell ⟨R, 1, none⟩ (.int .i64 s2.1.cfa.reg)).setCell ⟨R, 2, none⟩ (.int .i64 s2.1.cfa.n)).setCell ⟨R, 3, none⟩ (.slice ea el ec)).setCell ⟨R, 4, none⟩ (.map (some mb2))) = w6 at *
              have r0 : w6.cell? ⟨R, 0, none⟩ = some (.int .i64 s2.1.cfa.kind) := by rw [blk_cell b6]; rfl
              have r1 : w6.cell? ⟨R, 1, none⟩ = some (.int .i64 s2.1.cfa.reg) := by rw [blk_cell b6]; rfl
              have r2 : w6.cell? ⟨R, 2, none⟩ = some (.int .i64 s2.1.cfa.n) := by rw [blk_cell b6]; rfl
              have r3 : w6.cell? ⟨R, 3, none⟩ = some (.slice ea el ec) := by rw [blk_cell b6]; rfl
              have r4 : w6.cell? ⟨R, 4, none⟩ = some (.map (some mb2)) := by rw [blk_cell b6]; rfl
              refine bodyPost_ret (v := .tuple #[.agg #[.int .i64 s2.1.cfa.kind, .int .i64 s2.1.cfa.reg, .int .i64 s2.1.cfa.n, .slice ea el ec, .map (some mb2)], .bool true]) (by simp [results, Tryz.results11, go_sem, r0, r1, r2, r3, r4]) rfl ?_
              have e : sFde c.code c.offset pc f.start f.calls s = some s2 := by rw [← HRUN.out, HDR.out, sFde, if_pos HMV.out, HNX.out, if_neg (fun h => HO.out h.1), if_pos HPC.out]
              rw [e]
              obtain ⟨o1, o2, o3⟩ := tab_out HT8.out F3.out BZ.out HRW.out f6
              exact ⟨_, mb2, rfl, o1, o2, o3⟩
            · have q5 : decide ((nx : Int) ≤ (loc : Int)) = false := by simp; omega
              have q6 : decide (nx ≤ loc) = false := by simp; omega
              clear hle
              have hcf := HT8.out.cf
              obtain ⟨ea, ec, hev⟩ := sl_form hcf
              obtain ⟨el, hel⟩ : ∃ el, s2.1.cfa.expr.length = el := ⟨_, rfl⟩
              rw [hel] at hev
              subst hev
              clear hel hcf
              have htb := HT8.out.ht
              have t0 : w8.cell? ⟨tb, 0, none⟩ = some (.int .i64 s2.1.cfa.kind) := blk_cell htb 0
              have t1 : w8.cell? ⟨tb, 1, none⟩ = some (.int .i64 s2.1.cfa.reg) := blk_cell htb 1
              have t2 : w8.cell? ⟨tb, 2, none⟩ = some (.int .i64 s2.1.cfa.n) := blk_cell htb 2
              have t3 : w8.cell? ⟨tb, 3, none⟩ = some (.slice ea el ec) := blk_cell htb 3
              have t4 : w8.cell? ⟨tb, 4, none⟩ = some (.map (some mb2)) := blk_cell htb 4
              clear htb
              have hz : w8.heap[R]? = some (.cells #[.int .i64 0, .int .i64 0, .int .i64 0, .slice none 0 0, .map none] 42 (0, 0)) := HT8.out.fr.get BZ.out (by simp)
              have y0 : w8.frozen? ⟨R, 0, none⟩ = false := blk_free hz 0
              have x0 : w8.cell? ⟨R, 0, none⟩ = some (.int .i64 0) := blk_cell hz 0
              have y1 : w8.frozen? ⟨R, 1, none⟩ = false := blk_free hz 1
              have x1 : w8.cell? ⟨R, 1, none⟩ = some (.int .i64 0) := blk_cell hz 1
              have y2 : w8.frozen? ⟨R, 2, none⟩ = false := blk_free hz 2
              have x2 : w8.cell? ⟨R, 2, none⟩ = some (.int .i64 0) := blk_cell hz 2
              have y3 : w8.frozen? ⟨R, 3, none⟩ = false := blk_free hz 3
              have x3 : w8.cell? ⟨R, 3, none⟩ = some (.slice none 0 0) := blk_cell hz 3
              have y4 : w8.frozen? ⟨R, 4, none⟩ = false := blk_free hz 4
              have x4 : w8.cell? ⟨R, 4, none⟩ = some (.map none) := blk_cell hz 4
              have HZ := Lib.hid hz
              clear hz
              go_wp2_with fail
              have f6 : Fr [R] w8 (((((w8.setCell ⟨R, 0, none⟩ (.int .i64 s2.1.cfa.kind)).setCell ⟨R, 1, none⟩ (.int .i64 s2.1.cfa.reg)).setCell ⟨R, 2, none⟩ (.int .i64 s2.1.cfa.n)).setCell ⟨R, 3, none⟩ (.slice ea el ec)).setCell ⟨R, 4, none⟩ (.map (some mb2))) := (((((Fr.refl _ _).setCell (.inl (by simp)) _).setCell (.inl (by simp)) _).setCell (.inl (by simp)) _).setCell (.inl (by simp)) _).setCell (.inl (by simp)) _
              have b6 : (((((w8.setCell ⟨R, 0, none⟩ (.int .i64 s2.1.cfa.kind)).setCell ⟨R, 1, none⟩ (.int .i64 s2.1.cfa.reg)).setCell ⟨R, 2, none⟩ (.int .i64 s2.1.cfa.n)).setCell ⟨R, 3, none⟩ (.slice ea el ec)).setCell ⟨R, 4, none⟩ (.map (some mb2))).heap[R]? = some (.cells #[.int .i64 s2.1.cfa.kind, .int .i64 s2.1.cfa.reg, .int .i64 s2.1.cfa.n, .slice ea el ec, .map (some mb2)] 42 (0, 0)) := blk_set (blk_set (blk_set (blk_set (blk_set HZ.out 0 _) 1 _) 2 _) 3 _) 4 _
              generalize (((((w8.setCell ⟨R, 0, none⟩ (.int .i64 s2.1.cfa.kind)).setCell ⟨R, 1, none⟩ (.int .i64 s2.1.cfa.reg)).setCell ⟨R, 2, none⟩ (.int .i64 s2.1.cfa.n)).setCell ⟨R, 3, none⟩ (.slice ea el ec)).setCell ⟨R, 4, none⟩ (.map (some mb2))) = w6 at *
              have r0 : w6.cell? ⟨R, 0, none⟩ = some (.int .i64 s2.1.cfa.kind) := by rw [blk_cell b6]; rfl
              have r1 : w6.cell? ⟨R, 1, none⟩ = some (.int .i64 s2.1.cfa.reg) := by rw [blk_cell b6]; rfl
              have r2 : w6.cell? ⟨R, 2, none⟩ = some (.int .i64 s2.1.cfa.n) := by rw [blk_cell b6]; rfl
              have r3 : w6.cell? ⟨R, 3, none⟩ = some (.slice ea el ec) := by rw [blk_cell b6]; rfl
              have r4 : w6.cell? ⟨R, 4, none⟩ = some (.map (some mb2)) := by rw [blk_cell b6]; rfl
              refine bodyPost_ret (v := .tuple #[.agg #[.int .i64 s2.1.cfa.kind, .int .i64 s2.1.cfa.reg, .int .i64 s2.1.cfa.n, .slice ea el ec, .map (some mb2)], .bool true]) (by simp [results, Tryz.results11, go_sem, r0, r1, r2, r3, r4]) rfl ?_
              have e : sFde c.code c.offset pc f.start f.calls s = some s2 := by rw [← HRUN.out, HDR.out, sFde, if_pos HMV.out, HNX.out, if_neg (fun h => HO.out h.1), if_pos HPC.out]
              rw [e]
              obtain ⟨o1, o2, o3⟩ := tab_out HT8.out F3.out BZ.out HRW.out f6
              exact ⟨_, mb2, rfl, o1, o2, o3⟩
          · have q3 : decide ((pc : Int) < (nx : Int)) = false := by simp; omega
            have q4 : decide (pc < nx) = false := by simp; omega
            have HPC := Lib.hid hpc
            clear hpc
            by_cases hle : nx ≤ loc
            · have q5 : decide ((nx : Int) ≤ (loc : Int)) = true := by simp; exact hle
              have q6 : decide (nx ≤ loc) = true := by simp; exact hle
              clear hle
              go_wp2_with fail
              go_roundw
              case rel => exact ⟨k + 1, nx, s2, mb2, ev2, kv2, qs2, by omega, by go_num, rfl, by have := HPC.out; omega, by rw [← HRUN.out, HDR.out, sFde, if_pos HMV.out, HNX.out, if_neg (fun h => HO.out h.1), if_neg HPC.out], by omega, HT8.out⟩
              case measure => simp [intOf]; omega
            · have q5 : decide ((nx : Int) ≤ (loc : Int)) = false := by simp; omega
              have q6 : decide (nx ≤ loc) = false := by simp; omega
              clear hle
              go_wp2_with fail
              go_roundw
              case rel => exact ⟨k + 1, nx, s2, mb2, ev2, kv2, qs2, by omega, by go_num, rfl, by have := HPC.out; omega, by rw [← HRUN.out, HDR.out, sFde, if_pos HMV.out, HNX.out, if_neg (fun h => HO.out h.1), if_neg HPC.out], by omega, HT8.out⟩
              case measure => simp [intOf]; omega
      | false =>
        have HMV := Lib.hid hmv
        clear hmv
        go_upto_region 23 with (go_at_call 15; go_must (refine (moves_any op a b da dt.length dc w7).mono ?_); rw [HMV.out]; rintro e w8 ⟨rfl, hf8⟩; have F8 := Lib.hid hf8; clear hf8)
        have h8 := HT7.out.idle F8.out
        have HT8 := Lib.hid h8
        have c1 : w8.cell? ⟨w.heap.size, 1, none⟩ = some (.int .u64 (c.code : Int)) := blk_cell (h8.fr.get BC.out (by simp)) 1
        have b8 := F8.out.get HB7.out (by simp)
        have n0 : w8.cell? ⟨wr.heap.size, 0, none⟩ = some (.int .i64 op) := blk_cell b8 0
        have n1 : w8.cell? ⟨wr.heap.size, 1, none⟩ = some (.int .i64 a) := blk_cell b8 1
        have HB8 := Lib.hid b8
        clear h8 b8 m0 m1 m2 m3
        have hcm := HT8.out.fr.get BC.out (by simp)
        have l0 : w8.cell? ⟨w.heap.size, 0, none⟩ = some (.int .i64 c.version) := blk_cell hcm 0
        have l2 : w8.cell? ⟨w.heap.size, 2, none⟩ = some (.int .i64 c.offset) := blk_cell hcm 2
        have l3 : w8.cell? ⟨w.heap.size, 3, none⟩ = some (.int .i64 c.ret) := blk_cell hcm 3
        have l4 : w8.cell? ⟨w.heap.size, 4, none⟩ = some (.slice ca c.calls.length cc) := blk_cell hcm 4
        have l5 : w8.cell? ⟨w.heap.size, 5, none⟩ = some fv := blk_cell hcm 5
        have n2 : w8.cell? ⟨wr.heap.size, 2, none⟩ = some (.int .i64 b) := blk_cell HB8.out 2
        have n3 : w8.cell? ⟨wr.heap.size, 3, none⟩ = some (.slice da dt.length dc) := blk_cell HB8.out 3
        have HCA : Hid (Calls Tryz.prog 31 #[.pointer (some ⟨tb, 0, none⟩), .agg #[.int .i64 c.version, .int .u64 (c.code : Int), .int .i64 c.offset, .int .i64 c.ret, .slice ca c.calls.length cc, fv], .agg #[.int .i64 op, .int .i64 a, .int .i64 b, .slice da dt.length dc], .pointer (some ⟨kb, 0, none⟩)] w8 (TOut w3 tb kb (sCall c.offset ⟨op, a, b, dt⟩ s2) w8)) :=
          call_any HT8.out c _ fv a b dt da dc dt.length op HD.out (by omega) (crb_b HCX.out (rc_facts Hr.out).2.2.2.1 (rc_facts Hr.out).2.2.2.2.1) (crb_a HCX.out (rc_facts Hr.out).2.2.2.1 (rc_facts Hr.out).2.2.2.2.1)
        clear hcm
        cases hsc : sCall c.offset ⟨op, a, b, dt⟩ s2 with
        | none =>
          rw [hsc] at HCA
          have HSC := Lib.hid hsc
          clear hsc
          go_upto_region 24 with (go_at_call 31; go_must (refine HCA.out.mono ?_); rintro e w9 ⟨rfl, hf9⟩; have F9 := Lib.hid hf9; clear hf9)
          have hz := (F9.out).get BZ.out (by simp)
          have r0 : w9.cell? ⟨R, 0, none⟩ = some (.int .i64 0) := blk_cell hz 0
          have y0 : w9.frozen? ⟨R, 0, none⟩ = false := blk_free hz 0
          have z0 : w9.setCell ⟨R, 0, none⟩ (.int .i64 0) = w9 := setCell_same2 hz rfl
          have r1 : w9.cell? ⟨R, 1, none⟩ = some (.int .i64 0) := blk_cell hz 1
          have y1 : w9.frozen? ⟨R, 1, none⟩ = false := blk_free hz 1
          have z1 : w9.setCell ⟨R, 1, none⟩ (.int .i64 0) = w9 := setCell_same2 hz rfl
          have r2 : w9.cell? ⟨R, 2, none⟩ = some (.int .i64 0) := blk_cell hz 2
          have y2 : w9.frozen? ⟨R, 2, none⟩ = false := blk_free hz 2
          have z2 : w9.setCell ⟨R, 2, none⟩ (.int .i64 0) = w9 := setCell_same2 hz rfl
          have r3 : w9.cell? ⟨R, 3, none⟩ = some (.slice none 0 0) := blk_cell hz 3
          have y3 : w9.frozen? ⟨R, 3, none⟩ = false := blk_free hz 3
          have z3 : w9.setCell ⟨R, 3, none⟩ (.slice none 0 0) = w9 := setCell_same2 hz rfl
          have r4 : w9.cell? ⟨R, 4, none⟩ = some (.map none) := blk_cell hz 4
          have y4 : w9.frozen? ⟨R, 4, none⟩ = false := blk_free hz 4
          have z4 : w9.setCell ⟨R, 4, none⟩ (.map none) = w9 := setCell_same2 hz rfl
          clear hz
          go_wp2_with fail
          refine bodyPost_ret (v := .tuple #[tabZ, .bool false]) (by simp [results, Tryz.results11, go_sem, tabZ, r0, r1, r2, r3, r4]) rfl ?_
          have e : sFde c.code c.offset pc f.start f.calls s = none := by rw [← HRUN.out, HDR.out, sFde, if_neg (by rw [HMV.out]; simp), HSC.out]; rfl
          rw [e]
          exact ⟨rfl, F3.out.then (F9.out)⟩
        | some s3 =>
          rw [hsc] at HCA
          have HSC := Lib.hid hsc
          clear hsc
          go_wp2_with (go_at_call 31; go_must (refine HCA.out.mono ?_); rintro e w9 ⟨rfl, mb9, ev9, kv9, qs9, ht9⟩; have HT9 := Lib.hid ht9; clear ht9)
          go_wp2_with fail
          go_roundw
          case rel =>
            refine ⟨k + 1, loc, s3, mb9, ev9, kv9, qs9, by omega, by go_num, rfl, HLOC.out, ?_, ?_, HT9.out⟩
            · rw [← HRUN.out, HDR.out, sFde, if_neg (by rw [HMV.out]; simp), HSC.out]; rfl
            · have h1 := congrArg List.length HT9.out.sk
              have h2 := congrArg List.length HTS2.out.sk
              have h3 := sCall_some_len HSC.out
              simp only [List.length_map] at h1 h2
              omega
          case measure => simp [intOf]; omega
    · obtain rfl : k = f.calls.length := by omega
      have hcf := HTS2.out.cf
      obtain ⟨ea, ec, hev⟩ := sl_form hcf
      obtain ⟨el, hel⟩ : ∃ el, s2.1.cfa.expr.length = el := ⟨_, rfl⟩
      rw [hel] at hev
      subst hev
      clear hel hcf
      have htb := HTS2.out.ht
      have t0 : wr.cell? ⟨tb, 0, none⟩ = some (.int .i64 s2.1.cfa.kind) := blk_cell htb 0
      have t1 : wr.cell? ⟨tb, 1, none⟩ = some (.int .i64 s2.1.cfa.reg) := blk_cell htb 1
      have t2 : wr.cell? ⟨tb, 2, none⟩ = some (.int .i64 s2.1.cfa.n) := blk_cell htb 2
      have t3 : wr.cell? ⟨tb, 3, none⟩ = some (.slice ea el ec) := blk_cell htb 3
      have t4 : wr.cell? ⟨tb, 4, none⟩ = some (.map (some mb2)) := blk_cell htb 4
      clear htb
      have hz : wr.heap[R]? = some (.cells #[.int .i64 0, .int .i64 0, .int .i64 0, .slice none 0 0, .map none] 42 (0, 0)) := HTS2.out.fr.get BZ.out (by simp)
      have y0 : wr.frozen? ⟨R, 0, none⟩ = false := blk_free hz 0
      have x0 : wr.cell? ⟨R, 0, none⟩ = some (.int .i64 0) := blk_cell hz 0
      have y1 : wr.frozen? ⟨R, 1, none⟩ = false := blk_free hz 1
      have x1 : wr.cell? ⟨R, 1, none⟩ = some (.int .i64 0) := blk_cell hz 1
      have y2 : wr.frozen? ⟨R, 2, none⟩ = false := blk_free hz 2
      have x2 : wr.cell? ⟨R, 2, none⟩ = some (.int .i64 0) := blk_cell hz 2
      have y3 : wr.frozen? ⟨R, 3, none⟩ = false := blk_free hz 3
      have x3 : wr.cell? ⟨R, 3, none⟩ = some (.slice none 0 0) := blk_cell hz 3
      have y4 : wr.frozen? ⟨R, 4, none⟩ = false := blk_free hz 4
      have x4 : wr.cell? ⟨R, 4, none⟩ = some (.map none) := blk_cell hz 4
      have HZ := Lib.hid hz
      clear hz
      go_wp2_with fail
      have f6 : Fr [R] wr (((((wr.setCell ⟨R, 0, none⟩ (.int .i64 s2.1.cfa.kind)).setCell ⟨R, 1, none⟩ (.int .i64 s2.1.cfa.reg)).setCell ⟨R, 2, none⟩ (.int .i64 s2.1.cfa.n)).setCell ⟨R, 3, none⟩ (.slice ea el ec)).setCell ⟨R, 4, none⟩ (.map (some mb2))) := (((((Fr.refl _ _).setCell (.inl (by simp)) _).setCell (.inl (by simp)) _).setCell (.inl (by simp)) _).setCell (.inl (by simp)) _).setCell (.inl (by simp)) _
      have b6 : (((((wr.setCell ⟨R, 0, none⟩ (.int .i64 s2.1.cfa.kind)).setCell ⟨R, 1, none⟩ (.int .i64 s2.1.cfa.reg)).setCell ⟨R, 2, none⟩ (.int .i64 s2.1.cfa.n)).setCell ⟨R, 3, none⟩ (.slice ea el ec)).setCell ⟨R, 4, none⟩ (.map (some mb2))).heap[R]? = some (.cells #[.int .i64 s2.1.cfa.kind, .int .i64 s2.1.cfa.reg, .int .i64 s2.1.cfa.n, .slice ea el ec, .map (some mb2)] 42 (0, 0)) := blk_set (blk_set (blk_set (blk_set (blk_set HZ.out 0 _) 1 _) 2 _) 3 _) 4 _
      generalize (((((wr.setCell ⟨R, 0, none⟩ (.int .i64 s2.1.cfa.kind)).setCell ⟨R, 1, none⟩ (.int .i64 s2.1.cfa.reg)).setCell ⟨R, 2, none⟩ (.int .i64 s2.1.cfa.n)).setCell ⟨R, 3, none⟩ (.slice ea el ec)).setCell ⟨R, 4, none⟩ (.map (some mb2))) = w6 at *
      have r0 : w6.cell? ⟨R, 0, none⟩ = some (.int .i64 s2.1.cfa.kind) := by rw [blk_cell b6]; rfl
      have r1 : w6.cell? ⟨R, 1, none⟩ = some (.int .i64 s2.1.cfa.reg) := by rw [blk_cell b6]; rfl
      have r2 : w6.cell? ⟨R, 2, none⟩ = some (.int .i64 s2.1.cfa.n) := by rw [blk_cell b6]; rfl
      have r3 : w6.cell? ⟨R, 3, none⟩ = some (.slice ea el ec) := by rw [blk_cell b6]; rfl
      have r4 : w6.cell? ⟨R, 4, none⟩ = some (.map (some mb2)) := by rw [blk_cell b6]; rfl
      refine bodyPost_ret (v := .tuple #[.agg #[.int .i64 s2.1.cfa.kind, .int .i64 s2.1.cfa.reg, .int .i64 s2.1.cfa.n, .slice ea el ec, .map (some mb2)], .bool true]) (by simp [results, Tryz.results11, go_sem, r0, r1, r2, r3, r4]) rfl ?_
      have e : sFde c.code c.offset pc f.start f.calls s = some s2 := by rw [← HRUN.out, List.drop_length]; rfl
      rw [e]
      obtain ⟨o1, o2, o3⟩ := tab_out HTS2.out F3.out BZ.out HRW.out f6
      exact ⟨_, mb2, rfl, o1, o2, o3⟩
end Go.Proofs.YtahohmdfllgedaaGreat
