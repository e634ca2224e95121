/- The machine: based registers; plusuconsts where the stack is empty. Printed by gen_eop2.py.
The machine: jump, skip, bra. Printed by gen_eop3.py.
The machine: implicitvalue, deref. Printed by gen_eop4.py. -/
import Derived.Test.YtahohmdfllgedaaCn0
import Derived.Laws.Panics
import Derived.Laws.MakeOwn
set_option linter.unusedVariables false
set_option linter.unusedSimpArgs false
namespace Go.Proofs.Ytahohmdfllgedaa
open Go.RowKit

theorem CxV.regsAt {D : CxD} {x : LWorld} (hS : CxS D x) {cb : Nat} {w : World} {k : List Int} {ps : List LPiece} {p bb : Nat} {bv : Value} {bl : List UInt8} {off : Nat} {rd : Bool} {kv qv : Value} {qs : List (LPiece × Value)}
    (h : CxV D cb w k ps p bb bv bl off rd kv qv qs) {w' : World} (f : Fr [] w w') : RegsAt D.W w' cb 5 x D.rgv :=
  ⟨f.cell (h.cell 9) (by simp), f.cell (h.cell 17) (by simp), h.fr.then f, hS.rlen, hS.regs⟩
theorem bounds_neg {α : Type} {P : Program} {w : World} (y : Int) (code : BoundsCode) : (boundsPanic .i64 (-1) y code : Sem α).run P w = .halt (.panic (boundsValue P (-1) y true code.toNat)) w := by
  unfold boundsPanic boundsValue
  have e : IntKind.i64.wrap (-1) = -1 := rfl
  simp [runtimePanic, goPanic, go_sem, e]

set_option maxRecDepth 100000 in
set_option maxHeartbeats 4000000 in
theorem obreg_err (D : CxD) (cb : Nat) (w : World) (k : List Int) (ps : List LPiece) (p p' op j : Nat) (n : Int) (x : LWorld) (h : CxR D cb w k ps p) (hS : CxS D x) (hj : op = 112 + j) (h2 : op < 144) (ha : AtC D p (sleb n) p') (hn : i64 n) (hx : x.regs.length ≤ j) :
    Calls Try.prog 106 #[.int .u8 (op : Int), .pointer (some ⟨cb, 0, none⟩)] w (ErrP D) := by
  subst hj
  have q1 : ((((112 + j : Nat) : Int)) == 146) = false := by rw [beq_eq_false_iff_ne]; omega
  have q2 : (112 + (j : Int) == 146) = false := by rw [beq_eq_false_iff_ne]; omega
  have q3 : 112 + (j : Int) - 112 = (j : Int) := by omega
  have q4 : ((112 + j : Nat) : Int) - 112 = (j : Int) := by omega
  have q5 : IntKind.u8.wrap (112 + (j : Int) - 112) = (j : Int) := by rw [q3, IntKind.wrap_u8]; omega
  have q6 : IntKind.u8.wrap (((112 + j : Nat) : Int) - 112) = (j : Int) := by rw [q4, IntKind.wrap_u8]; omega
  have q7 : IntKind.u64.wrap (j : Int) = (j : Int) := by rw [IntKind.wrap_u64]; omega
  have HRL := Lib.hid hS.rlen
  have HS := Lib.hid hS
  clear hS
  obtain ⟨bb, bv, bl, off, rd, kv, qv, qs, hv⟩ := h
  obtain ⟨ka, kc, rfl⟩ := own_slice hv.own
  have c2 : w.cell? ⟨cb, 2, none⟩ = some (.slice ka k.length kc) := hv.cell 2
  have f2 := hv.free 2
  have Hv := Lib.hid hv
  have SZ := hv.fr.size
  have c0 : w.cell? ⟨cb, 0, none⟩ = some (.pointer (some ⟨bb, 0, none⟩)) := hv.cell 0
  have Ha := Lib.hid ha
  have Hun : Hid (wrap64 (sval (sleb n)) = n) := by show _ = _; rw [sval_sleb]; exact IntWalk.wrap64_in _ hn
  have Hn := Lib.hid hn
  clear hv ha hn
  go_enter Try.func106, Try.ntmps106
  go_upto_region 6 with (go_at_call 39; go_must (refine (lDecS_any bb bv bl off rd _ Hv.out.buf (sleb n) (D.code.drop p') (Hv.out.hp Ha.out) (sleb_ended n) (sleb_le10 Hn.out.1 Hn.out.2)).mono ?_); rw [Hun.out]; rintro e w1 ⟨rfl, hb1, hf1⟩; have hv1 := Hv.out.past Ha.out (n := (sleb n).length) (rfl) hb1 hf1; have Hv1 := Lib.hid hv1; have d2 : w1.cell? ⟨cb, 2, none⟩ = some (.slice ka k.length kc) := hv1.cell 2; have d6 : w1.cell? ⟨cb, 6, none⟩ = some (vi D.cfa) := hv1.cell 6; have d7 : w1.cell? ⟨cb, 7, none⟩ = some (vi D.base) := hv1.cell 7; have d5 : w1.cell? ⟨cb, 5, none⟩ = some (.int .u64 0) := hv1.cell 5; have x2 := hv1.free 2; have SZ1 := hv1.fr.size; clear hb1 hf1 hv1)
  have HRg : Hid (∀ w', Fr [] w1 w' → RegsAt D.W w' cb 5 x D.rgv) := fun w' f => Hv1.out.regsAt HS.out f
  go_wp2_with (go_at_call 112; go_must (refine (Reg_none D.W cb 5 x D.rgv _ j (HRg.out _ (Fr.refl [] _)) hx (by omega)).mono ?_); rintro e w' ⟨rfl, rfl⟩)
  go_wp2_with (go_at_call 61; go_must (refine (errorsNew_any _ _).mono ?_); rintro e w7 ⟨⟨t7, x7, rfl⟩, hf7⟩; have F7 := Lib.hid hf7; clear hf7)
  go_ret
  exact ⟨.inl ⟨_, _, rfl⟩, Hv1.out.fr.then F7.out⟩

set_option maxRecDepth 100000 in
set_option maxHeartbeats 4000000 in
theorem obreg_any (D : CxD) (cb : Nat) (w : World) (k : List Int) (ps : List LPiece) (p p' op j : Nat) (n : Int) (x : LWorld) (y : Nat) (h : CxR D cb w k ps p) (hk : k.length ≤ 1000000) (hS : CxS D x) (hj : op = 112 + j) (h2 : op < 144) (ha : AtC D p (sleb n) p') (hn : i64 n) (hx : j < x.regs.length) (hy : x.regs.getD j 0 = y) :
    Calls Try.prog 106 #[.int .u8 (op : Int), .pointer (some ⟨cb, 0, none⟩)] w (OkP D cb (k ++ [wrap64 (wrap64 (y : Int) + n)]) ps p') := by
  have Hy := Lib.hid hy
  clear hy
  subst hj
  have q1 : ((((112 + j : Nat) : Int)) == 146) = false := by rw [beq_eq_false_iff_ne]; omega
  have q2 : (112 + (j : Int) == 146) = false := by rw [beq_eq_false_iff_ne]; omega
  have q3 : 112 + (j : Int) - 112 = (j : Int) := by omega
  have q4 : ((112 + j : Nat) : Int) - 112 = (j : Int) := by omega
  have q5 : IntKind.u8.wrap (112 + (j : Int) - 112) = (j : Int) := by rw [q3, IntKind.wrap_u8]; omega
  have q6 : IntKind.u8.wrap (((112 + j : Nat) : Int) - 112) = (j : Int) := by rw [q4, IntKind.wrap_u8]; omega
  have q7 : IntKind.u64.wrap (j : Int) = (j : Int) := by rw [IntKind.wrap_u64]; omega
  have HRL := Lib.hid hS.rlen
  have HS := Lib.hid hS
  clear hS
  obtain ⟨bb, bv, bl, off, rd, kv, qv, qs, hv⟩ := h
  obtain ⟨ka, kc, rfl⟩ := own_slice hv.own
  have c2 : w.cell? ⟨cb, 2, none⟩ = some (.slice ka k.length kc) := hv.cell 2
  have f2 := hv.free 2
  have Hv := Lib.hid hv
  have SZ := hv.fr.size
  have c0 : w.cell? ⟨cb, 0, none⟩ = some (.pointer (some ⟨bb, 0, none⟩)) := hv.cell 0
  have Ha := Lib.hid ha
  have Hun : Hid (wrap64 (sval (sleb n)) = n) := by show _ = _; rw [sval_sleb]; exact IntWalk.wrap64_in _ hn
  have Hn := Lib.hid hn
  clear hv ha hn
  have hw1 : ∀ n, IntKind.i64.wrap n = wrap64 n := IntWalk.i64_left
  go_enter Try.func106, Try.ntmps106
  go_upto_region 6 with (go_at_call 39; go_must (refine (lDecS_any bb bv bl off rd _ Hv.out.buf (sleb n) (D.code.drop p') (Hv.out.hp Ha.out) (sleb_ended n) (sleb_le10 Hn.out.1 Hn.out.2)).mono ?_); rw [Hun.out]; rintro e w1 ⟨rfl, hb1, hf1⟩; have hv1 := Hv.out.past Ha.out (n := (sleb n).length) (rfl) hb1 hf1; have Hv1 := Lib.hid hv1; have d2 : w1.cell? ⟨cb, 2, none⟩ = some (.slice ka k.length kc) := hv1.cell 2; have d6 : w1.cell? ⟨cb, 6, none⟩ = some (vi D.cfa) := hv1.cell 6; have d7 : w1.cell? ⟨cb, 7, none⟩ = some (vi D.base) := hv1.cell 7; have d5 : w1.cell? ⟨cb, 5, none⟩ = some (.int .u64 0) := hv1.cell 5; have x2 := hv1.free 2; have SZ1 := hv1.fr.size; clear hb1 hf1 hv1)
  have HRg : Hid (∀ w', Fr [] w1 w' → RegsAt D.W w' cb 5 x D.rgv) := fun w' f => Hv1.out.regsAt HS.out f
  have d2a : ∀ o, (w1.alloc o).drew.cell? ⟨cb, 2, none⟩ = some (.slice ka k.length kc) := fun o => (((Fr.refl [] w1).alloc o).drew).cell d2 (by simp)
  go_wp2_with (go_at_call 112; go_must (refine (Reg_some D.W cb 5 x D.rgv _ j (HRg.out _ (Fr.refl [] _)) hx).mono ?_); rintro e w' ⟨⟨b7, rfl⟩, rfl⟩)
  go_region_law ((first | (go_simp; go_at_call 78; go_must (refine (Uint64Val_any D.W cb 5 x D.rgv _ j (HRg.out _ (by first | exact (Fr.refl [] _).drew | exact ((Fr.refl [] _).alloc _).drew | exact ((Fr.refl [] _).drew).alloc _)) (by have := HRL.out; omega)).mono ?_); rw [Hy.out]; rintro e w' ⟨rfl, rfl⟩) | (go_must (refine step_app4 sliceI64 _ (by rfl) _ _ (by rfl) D.W.heap.size _ k.length (vis k) (by rfl) (Hv1.out.ow (by first | exact ((Fr.refl [] _).alloc _) | exact ((Fr.refl [] _).alloc _).drew | exact ((Fr.refl [] _).drew).alloc _ | exact (((Fr.refl [] _).drewN _).alloc _) | exact ((((Fr.refl [] _).drewN _).alloc _).drew) | exact ((((Fr.refl [] _).drewN _).drew).alloc _))) (some ⟨w1.heap.size, 0, none⟩) 1 1 [_] (by rfl) (by rfl) (fun h => by cases h) (by first | exact news_blk (blk_new w1 _) | exact news_blk (blk_new w1.drew _)) (by simp [Value.oneCell']) (by omega) (by decide) (by simp; omega) ?_); intro a8 c8' w8 ho8 hf8 hg8 ht8; have HP := Lib.hid (Hv1.out.pushed (by first | exact ((Fr.refl [] _).alloc _) | exact ((Fr.refl [] _).alloc _).drew | exact ((Fr.refl [] _).drew).alloc _ | exact (((Fr.refl [] _).drewN _).alloc _) | exact ((((Fr.refl [] _).drewN _).alloc _).drew) | exact ((((Fr.refl [] _).drewN _).drew).alloc _)) hf8 ht8 ho8); have hb8 := Hv1.out.app (by first | exact ((Fr.refl [] _).alloc _) | exact ((Fr.refl [] _).alloc _).drew | exact ((Fr.refl [] _).drew).alloc _ | exact (((Fr.refl [] _).drewN _).alloc _) | exact ((((Fr.refl [] _).drewN _).alloc _).drew) | exact ((((Fr.refl [] _).drewN _).drew).alloc _)) ht8; have s2 : w8.cell? ⟨cb, 2, none⟩ = some (.slice ka k.length kc) := blk_cell hb8 2; have z2 : w8.frozen? ⟨cb, 2, none⟩ = false := blk_free hb8 2; clear ho8 hf8 hg8 ht8 hb8)))
  all_goals
    go_wp2_with fail
    go_ret
    exact ⟨rfl, HP.out⟩

set_option maxRecDepth 100000 in
set_option maxHeartbeats 4000000 in
theorem obregx_err (D : CxD) (cb : Nat) (w : World) (k : List Int) (ps : List LPiece) (p p0 p' j : Nat) (n : Int) (x : LWorld) (h : CxR D cb w k ps p) (hS : CxS D x) (ha0 : AtC D p (uleb j) p0) (hj : j < 18446744073709551616) (ha : AtC D p0 (sleb n) p') (hn : i64 n) (hx : x.regs.length ≤ j) :
    Calls Try.prog 106 #[.int .u8 146, .pointer (some ⟨cb, 0, none⟩)] w (ErrP D) := by
  have HRL := Lib.hid hS.rlen
  have HS := Lib.hid hS
  clear hS
  obtain ⟨bb, bv, bl, off, rd, kv, qv, qs, hv⟩ := h
  obtain ⟨ka, kc, rfl⟩ := own_slice hv.own
  have c2 : w.cell? ⟨cb, 2, none⟩ = some (.slice ka k.length kc) := hv.cell 2
  have f2 := hv.free 2
  have Hv := Lib.hid hv
  have SZ := hv.fr.size
  have c0 : w.cell? ⟨cb, 0, none⟩ = some (.pointer (some ⟨bb, 0, none⟩)) := hv.cell 0
  have Ha := Lib.hid ha
  have Ha0 := Lib.hid ha0
  have Huj : Hid (uval (uleb j) % M64 = j) := by show _ = _; rw [uval_uleb]; exact Nat.mod_eq_of_lt (by unfold M64; exact hj)
  have Hj := Lib.hid hj
  have Hun : Hid (wrap64 (sval (sleb n)) = n) := by show _ = _; rw [sval_sleb]; exact IntWalk.wrap64_in _ hn
  have Hn := Lib.hid hn
  clear hv ha hn ha0 hj
  go_enter Try.func106, Try.ntmps106
  go_upto_region 5 with (go_at_call 33; go_must (refine (lDecU_any bb bv bl off rd _ Hv.out.buf (uleb j) (D.code.drop p0) (Hv.out.hp Ha0.out) (uleb_ended j) (uleb_le10 Hj.out)).mono ?_); rw [Huj.out]; rintro e w0 ⟨rfl, hb0, hf0⟩; have Hv0 := Lib.hid (Hv.out.past Ha0.out (n := (uleb j).length) rfl hb0 hf0); have c00 : w0.cell? ⟨cb, 0, none⟩ = some (.pointer (some ⟨bb, 0, none⟩)) := Hv0.out.cell 0; clear hb0 hf0)
  go_upto_region 6 with (go_at_call 39; go_must (refine (lDecS_any bb bv bl (off + (uleb j).length) true _ Hv0.out.buf (sleb n) (D.code.drop p') (Hv0.out.hp Ha.out) (sleb_ended n) (sleb_le10 Hn.out.1 Hn.out.2)).mono ?_); rw [Hun.out]; rintro e w1 ⟨rfl, hb1, hf1⟩; have hv1 := Hv0.out.past Ha.out (n := (sleb n).length) (rfl) hb1 hf1; have Hv1 := Lib.hid hv1; have d2 : w1.cell? ⟨cb, 2, none⟩ = some (.slice ka k.length kc) := hv1.cell 2; have d6 : w1.cell? ⟨cb, 6, none⟩ = some (vi D.cfa) := hv1.cell 6; have d7 : w1.cell? ⟨cb, 7, none⟩ = some (vi D.base) := hv1.cell 7; have d5 : w1.cell? ⟨cb, 5, none⟩ = some (.int .u64 0) := hv1.cell 5; have x2 := hv1.free 2; have SZ1 := hv1.fr.size; clear hb1 hf1 hv1)
  have HRg : Hid (∀ w', Fr [] w1 w' → RegsAt D.W w' cb 5 x D.rgv) := fun w' f => Hv1.out.regsAt HS.out f
  go_wp2_with (go_at_call 112; go_must (refine (Reg_none D.W cb 5 x D.rgv _ j (HRg.out _ (Fr.refl [] _)) hx Hj.out).mono ?_); rintro e w' ⟨rfl, rfl⟩)
  go_wp2_with (go_at_call 61; go_must (refine (errorsNew_any _ _).mono ?_); rintro e w7 ⟨⟨t7, x7, rfl⟩, hf7⟩; have F7 := Lib.hid hf7; clear hf7)
  go_ret
  exact ⟨.inl ⟨_, _, rfl⟩, Hv1.out.fr.then F7.out⟩

set_option maxRecDepth 100000 in
set_option maxHeartbeats 4000000 in
theorem obregx_any (D : CxD) (cb : Nat) (w : World) (k : List Int) (ps : List LPiece) (p p0 p' j : Nat) (n : Int) (x : LWorld) (y : Nat) (h : CxR D cb w k ps p) (hk : k.length ≤ 1000000) (hS : CxS D x) (ha0 : AtC D p (uleb j) p0) (hj : j < 18446744073709551616) (ha : AtC D p0 (sleb n) p') (hn : i64 n) (hx : j < x.regs.length) (hy : x.regs.getD j 0 = y) :
    Calls Try.prog 106 #[.int .u8 146, .pointer (some ⟨cb, 0, none⟩)] w (OkP D cb (k ++ [wrap64 (wrap64 (y : Int) + n)]) ps p') := by
  have Hy := Lib.hid hy
  clear hy
  have HRL := Lib.hid hS.rlen
  have HS := Lib.hid hS
  clear hS
  obtain ⟨bb, bv, bl, off, rd, kv, qv, qs, hv⟩ := h
  obtain ⟨ka, kc, rfl⟩ := own_slice hv.own
  have c2 : w.cell? ⟨cb, 2, none⟩ = some (.slice ka k.length kc) := hv.cell 2
  have f2 := hv.free 2
  have Hv := Lib.hid hv
  have SZ := hv.fr.size
  have c0 : w.cell? ⟨cb, 0, none⟩ = some (.pointer (some ⟨bb, 0, none⟩)) := hv.cell 0
  have Ha := Lib.hid ha
  have Ha0 := Lib.hid ha0
  have Huj : Hid (uval (uleb j) % M64 = j) := by show _ = _; rw [uval_uleb]; exact Nat.mod_eq_of_lt (by unfold M64; exact hj)
  have Hj := Lib.hid hj
  have Hun : Hid (wrap64 (sval (sleb n)) = n) := by show _ = _; rw [sval_sleb]; exact IntWalk.wrap64_in _ hn
  have Hn := Lib.hid hn
  clear hv ha hn ha0 hj
  have hw1 : ∀ n, IntKind.i64.wrap n = wrap64 n := IntWalk.i64_left
  go_enter Try.func106, Try.ntmps106
  go_upto_region 5 with (go_at_call 33; go_must (refine (lDecU_any bb bv bl off rd _ Hv.out.buf (uleb j) (D.code.drop p0) (Hv.out.hp Ha0.out) (uleb_ended j) (uleb_le10 Hj.out)).mono ?_); rw [Huj.out]; rintro e w0 ⟨rfl, hb0, hf0⟩; have Hv0 := Lib.hid (Hv.out.past Ha0.out (n := (uleb j).length) rfl hb0 hf0); have c00 : w0.cell? ⟨cb, 0, none⟩ = some (.pointer (some ⟨bb, 0, none⟩)) := Hv0.out.cell 0; clear hb0 hf0)
  go_upto_region 6 with (go_at_call 39; go_must (refine (lDecS_any bb bv bl (off + (uleb j).length) true _ Hv0.out.buf (sleb n) (D.code.drop p') (Hv0.out.hp Ha.out) (sleb_ended n) (sleb_le10 Hn.out.1 Hn.out.2)).mono ?_); rw [Hun.out]; rintro e w1 ⟨rfl, hb1, hf1⟩; have hv1 := Hv0.out.past Ha.out (n := (sleb n).length) (rfl) hb1 hf1; have Hv1 := Lib.hid hv1; have d2 : w1.cell? ⟨cb, 2, none⟩ = some (.slice ka k.length kc) := hv1.cell 2; have d6 : w1.cell? ⟨cb, 6, none⟩ = some (vi D.cfa) := hv1.cell 6; have d7 : w1.cell? ⟨cb, 7, none⟩ = some (vi D.base) := hv1.cell 7; have d5 : w1.cell? ⟨cb, 5, none⟩ = some (.int .u64 0) := hv1.cell 5; have x2 := hv1.free 2; have SZ1 := hv1.fr.size; clear hb1 hf1 hv1)
  have HRg : Hid (∀ w', Fr [] w1 w' → RegsAt D.W w' cb 5 x D.rgv) := fun w' f => Hv1.out.regsAt HS.out f
  have d2a : ∀ o, (w1.alloc o).drew.cell? ⟨cb, 2, none⟩ = some (.slice ka k.length kc) := fun o => (((Fr.refl [] w1).alloc o).drew).cell d2 (by simp)
  go_wp2_with (go_at_call 112; go_must (refine (Reg_some D.W cb 5 x D.rgv _ j (HRg.out _ (Fr.refl [] _)) hx).mono ?_); rintro e w' ⟨⟨b7, rfl⟩, rfl⟩)
  go_region_law ((first | (go_simp; go_at_call 78; go_must (refine (Uint64Val_any D.W cb 5 x D.rgv _ j (HRg.out _ (by first | exact (Fr.refl [] _).drew | exact ((Fr.refl [] _).alloc _).drew | exact ((Fr.refl [] _).drew).alloc _)) (by have := HRL.out; omega)).mono ?_); rw [Hy.out]; rintro e w' ⟨rfl, rfl⟩) | (go_must (refine step_app4 sliceI64 _ (by rfl) _ _ (by rfl) D.W.heap.size _ k.length (vis k) (by rfl) (Hv1.out.ow (by first | exact ((Fr.refl [] _).alloc _) | exact ((Fr.refl [] _).alloc _).drew | exact ((Fr.refl [] _).drew).alloc _ | exact (((Fr.refl [] _).drewN _).alloc _) | exact ((((Fr.refl [] _).drewN _).alloc _).drew) | exact ((((Fr.refl [] _).drewN _).drew).alloc _))) (some ⟨w1.heap.size, 0, none⟩) 1 1 [_] (by rfl) (by rfl) (fun h => by cases h) (by first | exact news_blk (blk_new w1 _) | exact news_blk (blk_new w1.drew _)) (by simp [Value.oneCell']) (by omega) (by decide) (by simp; omega) ?_); intro a8 c8' w8 ho8 hf8 hg8 ht8; have HP := Lib.hid (Hv1.out.pushed (by first | exact ((Fr.refl [] _).alloc _) | exact ((Fr.refl [] _).alloc _).drew | exact ((Fr.refl [] _).drew).alloc _ | exact (((Fr.refl [] _).drewN _).alloc _) | exact ((((Fr.refl [] _).drewN _).alloc _).drew) | exact ((((Fr.refl [] _).drewN _).drew).alloc _)) hf8 ht8 ho8); have hb8 := Hv1.out.app (by first | exact ((Fr.refl [] _).alloc _) | exact ((Fr.refl [] _).alloc _).drew | exact ((Fr.refl [] _).drew).alloc _ | exact (((Fr.refl [] _).drewN _).alloc _) | exact ((((Fr.refl [] _).drewN _).alloc _).drew) | exact ((((Fr.refl [] _).drewN _).drew).alloc _)) ht8; have s2 : w8.cell? ⟨cb, 2, none⟩ = some (.slice ka k.length kc) := blk_cell hb8 2; have z2 : w8.frozen? ⟨cb, 2, none⟩ = false := blk_free hb8 2; clear ho8 hf8 hg8 ht8 hb8)))
  all_goals
    go_wp2_with fail
    go_ret
    exact ⟨rfl, HP.out⟩

set_option maxRecDepth 100000 in
set_option maxHeartbeats 4000000 in
theorem oplusu_err (D : CxD) (cb : Nat) (w : World) (ps : List LPiece) (p p' n : Nat) (h : CxR D cb w [] ps p) (ha : AtC D p (uleb n) p') (hn : n < 18446744073709551616) :
    Calls Try.prog 101 #[.int .u8 35, .pointer (some ⟨cb, 0, none⟩)] w (ErrP D) := by
  obtain ⟨k, hk⟩ : ∃ k : List Int, k = [] := ⟨[], rfl⟩
  have hkl : k.length = 0 := by rw [hk]; rfl
  rw [← hk] at h
  obtain ⟨bb, bv, bl, off, rd, kv, qv, qs, hv⟩ := h
  obtain ⟨ka, kc, rfl⟩ := own_slice hv.own
  have Ha := Lib.hid ha
  have c2 : w.cell? ⟨cb, 2, none⟩ = some (.slice ka 0 kc) := by have := hv.cell 2; rw [hkl] at this; exact this
  have c0 : w.cell? ⟨cb, 0, none⟩ = some (.pointer (some ⟨bb, 0, none⟩)) := hv.cell 0
  have Hv := Lib.hid hv
  have hnil : ka = none → (0 : Nat) = 0 := fun _ => rfl
  have hix : ∀ w, (Instr.indexAt 106 (.slice ka 0 kc) (.int .i64 (-1))).run Try.prog w = .halt (.panic (boundsValue Try.prog (-1) 0 true 0)) w := fun w => by
    have h0 : Try.prog.underlying 106 = some (.slice (Try.prog.elem 106)) := by kernel_rfl
    cases ka with
    | some a => rw [run_indexAt_slice (h := h0), if_neg (by omega)]; exact bounds_neg _ _
    | none =>
      have e : (Instr.indexAt 106 (.slice none 0 kc) (.int .i64 (-1))).run Try.prog w = (boundsPanic .i64 (-1) 0 .index).run Try.prog w := by simp [Instr.indexAt, run_underlying h0, asIntOf]
      rw [e]; exact bounds_neg _ _
  unfold boundsValue at hix
  have hwm : IntKind.i64.wrap (-1) = -1 := rfl
  have Hun : Hid (uval (uleb n) % M64 = n) := by show _ = _; rw [uval_uleb]; exact Nat.mod_eq_of_lt (by unfold M64; exact hn)
  have Hn := Lib.hid hn
  clear hv ha hn hk
  go_enter Try.func101, Try.ntmps101
  go_upto_region 3 with (go_at_call 33; go_must (refine (lDecU_any bb bv bl off rd _ Hv.out.buf (uleb n) (D.code.drop p') (Hv.out.hp Ha.out) (uleb_ended n) (uleb_le10 Hn.out)).mono ?_); rw [Hun.out]; rintro e w1 ⟨rfl, hb1, hf1⟩; have hv1 := Hv.out.past Ha.out (n := (uleb n).length) (rfl) hb1 hf1; have Hv1 := Lib.hid hv1; have d2 : w1.cell? ⟨cb, 2, none⟩ = some (.slice ka 0 kc) := (by have := hv1.cell 2; rw [hkl] at this; exact this); have d6 : w1.cell? ⟨cb, 6, none⟩ = some (vi D.cfa) := hv1.cell 6; have d7 : w1.cell? ⟨cb, 7, none⟩ = some (vi D.base) := hv1.cell 7; have d5 : w1.cell? ⟨cb, 5, none⟩ = some (.int .u64 0) := hv1.cell 5; have x2 := hv1.free 2; have SZ1 := hv1.fr.size; clear hb1 hf1 hv1)
  refine wp_region_held_drew (S := (fun w' => w'.cell? ⟨cb, 2, none⟩ = some (.slice ka 0 kc))) (by kernel_rfl) ?_ (fun hHeld => ?_)
  · exact (Fr.refl [] w1).drew.cell d2 (by simp)
  refine wpAnyH_take (i := 0) (v := ?_) rfl (by kernel_rfl) (by kernel_rfl) (by kernel_rfl) (fun _ _ _ h => h) (Or.inl ⟨by kernel_rfl, ?_⟩) (by assumption) ?_
  rotate_left
  · (intro w hSw; (try dsimp only at hSw); go_simp; try with_reducible rfl)
  (try simp only [Act.put, List.setIfInBounds_toArray, List.set_cons_zero, List.set_cons_succ])
  refine wpAnyH_take (i := 1) (v := ?_) rfl (by kernel_rfl) (by kernel_rfl) (by kernel_rfl) (fun _ _ _ h => h) (Or.inl ⟨by kernel_rfl, ?_⟩) (by assumption) ?_
  rotate_left
  · (intro w hSw; (try dsimp only at hSw); go_simp; try with_reducible rfl)
  (try simp only [Act.put, List.setIfInBounds_toArray, List.set_cons_zero, List.set_cons_succ])
  refine wpAnyH_take (i := 2) (v := ?_) rfl (by kernel_rfl) (by kernel_rfl) (by kernel_rfl) (fun _ _ _ h => h) (Or.inl ⟨by kernel_rfl, ?_⟩) (by assumption) ?_
  rotate_left
  · (intro w hSw; (try dsimp only at hSw); go_simp; try with_reducible rfl)
  (try simp only [Act.put, List.setIfInBounds_toArray, List.set_cons_zero, List.set_cons_succ])
  refine wpAnyH_take (i := 3) (v := ?_) rfl (by kernel_rfl) (by kernel_rfl) (by kernel_rfl) (fun _ _ _ h => h) (Or.inl ⟨by kernel_rfl, ?_⟩) (by assumption) ?_
  rotate_left
  · (intro w hSw; (try dsimp only at hSw); go_simp; try with_reducible rfl)
  (try simp only [Act.put, List.setIfInBounds_toArray, List.set_cons_zero, List.set_cons_succ])
  refine wpAnyH_take (i := 4) (v := ?_) rfl (by kernel_rfl) (by kernel_rfl) (by kernel_rfl) (fun _ _ _ h => h) (Or.inl ⟨by kernel_rfl, ?_⟩) (by assumption) ?_
  rotate_left
  · (intro w hSw; (try dsimp only at hSw); go_simp; try with_reducible rfl)
  (try simp only [Act.put, List.setIfInBounds_toArray, List.set_cons_zero, List.set_cons_succ])
  refine wpAnyH_take (i := 5) (v := ?_) rfl (by kernel_rfl) (by kernel_rfl) (by kernel_rfl) (fun _ _ _ h => h) (Or.inl ⟨by kernel_rfl, ?_⟩) (by assumption) ?_
  rotate_left
  · (intro w hSw; (try dsimp only at hSw); go_simp; try with_reducible rfl)
  (try simp only [Act.put, List.setIfInBounds_toArray, List.set_cons_zero, List.set_cons_succ])
  refine wpAnyH_take (i := 6) (v := ?_) rfl (by kernel_rfl) (by kernel_rfl) (by kernel_rfl) (fun _ _ _ h => h) (Or.inl ⟨by kernel_rfl, ?_⟩) (by assumption) ?_
  rotate_left
  · (intro w hSw; (try dsimp only at hSw); go_simp; try with_reducible rfl)
  (try simp only [Act.put, List.setIfInBounds_toArray, List.set_cons_zero, List.set_cons_succ])
  refine wpAnyH_take (i := 7) (v := ?_) rfl (by kernel_rfl) (by kernel_rfl) (by kernel_rfl) (fun _ _ _ h => h) (Or.inl ⟨by kernel_rfl, ?_⟩) (by assumption) ?_
  rotate_left
  · (intro w hSw; (try dsimp only at hSw); go_simp; try with_reducible rfl)
  (try simp only [Act.put, List.setIfInBounds_toArray, List.set_cons_zero, List.set_cons_succ])
  refine wpAnyH_take (i := 8) (v := ?_) rfl (by kernel_rfl) (by kernel_rfl) (by kernel_rfl) (fun _ _ _ h => h) (Or.inl ⟨by kernel_rfl, ?_⟩) (by assumption) ?_
  rotate_left
  · (intro w hSw; (try dsimp only at hSw); go_simp; try with_reducible rfl)
  (try simp only [Act.put, List.setIfInBounds_toArray, List.set_cons_zero, List.set_cons_succ])
  refine wpAnyH_take (i := 9) (v := ?_) rfl (by kernel_rfl) (by kernel_rfl) (by kernel_rfl) (fun _ _ _ h => h) (Or.inl ⟨by kernel_rfl, ?_⟩) (by assumption) ?_
  rotate_left
  · (intro w hSw; (try dsimp only at hSw); go_simp; try with_reducible rfl)
  (try simp only [Act.put, List.setIfInBounds_toArray, List.set_cons_zero, List.set_cons_succ])
  refine wpAnyH_take (i := 10) (v := ?_) rfl (by kernel_rfl) (by kernel_rfl) (by kernel_rfl) (fun _ _ _ h => h) (Or.inl ⟨by kernel_rfl, ?_⟩) (by assumption) ?_
  rotate_left
  · (intro w hSw; (try dsimp only at hSw); go_simp; try with_reducible rfl)
  (try simp only [Act.put, List.setIfInBounds_toArray, List.set_cons_zero, List.set_cons_succ])
  refine wpAnyH_take (i := 11) (v := ?_) rfl (by kernel_rfl) (by kernel_rfl) (by kernel_rfl) (fun _ _ _ h => h) (Or.inl ⟨by kernel_rfl, ?_⟩) (by assumption) ?_
  rotate_left
  · (intro w hSw; (try dsimp only at hSw); go_simp; try with_reducible rfl)
  (try simp only [Act.put, List.setIfInBounds_toArray, List.set_cons_zero, List.set_cons_succ])
  refine wpAnyH_take (i := 14) (v := ?_) rfl (by kernel_rfl) (by kernel_rfl) (by kernel_rfl) (fun _ _ _ h => h) (Or.inl ⟨by kernel_rfl, ?_⟩) (by assumption) ?_
  rotate_left
  · (intro w hSw; (try dsimp only at hSw); go_simp; try with_reducible rfl)
  (try simp only [Act.put, List.setIfInBounds_toArray, List.set_cons_zero, List.set_cons_succ])
  refine wpAnyH_take (i := 15) (v := ?_) rfl (by kernel_rfl) (by kernel_rfl) (by kernel_rfl) (fun _ _ _ h => h) (Or.inl ⟨by kernel_rfl, ?_⟩) (by assumption) ?_
  rotate_left
  · (intro w hSw; (try dsimp only at hSw); go_simp; try with_reducible rfl)
  (try simp only [Act.put, List.setIfInBounds_toArray, List.set_cons_zero, List.set_cons_succ])
  refine wpAnyH_ready (rs := [12]) (by kernel_rfl) (by simp) ?_
  refine AllReadyH.cons rfl (fun K hK => ?_) AllReadyH.nil
  go_simp
  exact ⟨rfl, .inr ⟨_, _, rfl⟩, Hv1.out.fr.drew⟩
end Go.Proofs.Ytahohmdfllgedaa

namespace Go.Proofs.Ytahohmdfllgedaa
open Go.RowKit

/-- The buffer is a new one. -/
theorem CxV.rebuf {D : CxD} {cb : Nat} {w : World} {k : List Int} {ps : List LPiece} {p bb : Nat} {bv : Value} {bl : List UInt8} {off : Nat} {rd : Bool} {kv qv : Value} {qs : List (LPiece × Value)}
    (h : CxV D cb w k ps p bb bv bl off rd kv qv qs) {w1 : World} (f : Fr [] w w1) {bb' t : Nat} {bv' : Value} {bl' : List UInt8} (hb : w1.heap[bb']? = some (.cells #[bv', .int .i64 0, .bool false] 79 (0, 0))) (hge : D.W.heap.size ≤ bb')
    (hsl : Sl D.W bv' (vbs bl')) (hD : ∀ g, bv'.ownBlock = some g → g < D.W.heap.size) (hpos : bl' = D.code.drop t) (hle : t ≤ D.code.length) (hcl : D.code.length ≤ 100000) :
    CxR D cb (w1.setCell ⟨cb, 0, none⟩ (.pointer (some ⟨bb', 0, none⟩))) k ps t := by
  have h1 := h.call f
  have fs := (Fr.refl [cb] w1).setCell (p := ⟨cb, 0, none⟩) (.inl (by simp)) (.pointer (some ⟨bb', 0, none⟩))
  have hbc : bb' ≠ cb := by
    rintro rfl
    have h2 := h1.blk
    rw [hb] at h2; simp at h2
  have ft : FrT TI w1 (w1.setCell ⟨cb, 0, none⟩ (.pointer (some ⟨bb', 0, none⟩))) := cx_set h1.blk 0 _
  refine ⟨bb', bv', bl', 0, false, kv, qv, qs, by simpa using blk_set h1.blk 0 (.pointer (some ⟨bb', 0, none⟩)), h1.fr.setCell (.inr h1.ge) _, h1.ge, hge, ?_, hsl, hD, by rw [List.drop_zero]; exact hpos, hle, ?_, ?_, h1.pn, h1.pq, fun q hq => (h1.pb q hq).fr ft⟩
  · refine ⟨fs.get (by simpa using hb) (by simpa using hbc), (hsl.fr h1.fr (by simp)).fr fs (fun g hg => by simp; rintro rfl; have := hD _ hg; have := h1.ge; omega), fun e => by have := hD _ e; omega, Nat.zero_le _, ?_⟩
    rw [hpos, List.length_drop]; omega
  · exact own_fr h1.own fs (fun g hg => by simp; rintro rfl; exact h1.kv_ne.1 hg)
  · exact own_fr h1.pcs fs (fun g hg => by simp; rintro rfl; exact h1.qv_ne.1 hg)

set_option maxRecDepth 100000 in
set_option maxHeartbeats 4000000 in
theorem ojump_part (D : CxD) (x : LWorld) (cb : Nat) (w : World) (k : List Int) (ps : List LPiece) (p t g o c : Nat) (n : Int) (hS : CxS D x) (hpv : D.pv = .slice (some ⟨g, o, none⟩) D.code.length c) (hcc : D.code.length ≤ c) (hcm : c ≤ maxLen) (h : CxR D cb w k ps p) (ht : (p : Int) + n = (t : Int)) (htl : t ≤ D.code.length)
    (hfull : ¬ c = t) (hcs : Cells D.W g o (vbs D.code)) : Calls Try.prog 126 #[.pointer (some ⟨cb, 0, none⟩), .int .i16 n] w (OkP D cb k ps t) := by
  obtain ⟨bb, bv, bl, off, rd, kv, qv, qs, hv⟩ := h
  have hcl := hS.clen
  obtain ⟨m, hm⟩ : ∃ m, off + m = bl.length := ⟨bl.length - off, by have := hv.buf.2.2.2.1; omega⟩
  have hlen : bl.length - off = D.code.length - p := by have := congrArg List.length hv.pos; simpa using this
  have hple := hv.ple
  have c0 : w.cell? ⟨cb, 0, none⟩ = some (.pointer (some ⟨bb, 0, none⟩)) := hv.cell 0
  have c1 : w.cell? ⟨cb, 1, none⟩ = some (.slice (some ⟨g, o, none⟩) D.code.length c) := by rw [← hpv]; exact hv.cell 1
  have f0 := hv.free 0
  have e1 : (D.code.length : Int) - (m : Int) = (p : Int) := by omega
  have e2 : IntKind.i64.wrap ((D.code.length : Int) - (m : Int)) = (p : Int) := by rw [e1]; exact IntWalk.i64_in _ (by omega)
  have e3 : IntKind.i64.wrap ((p : Int) + n) = (t : Int) := by rw [ht]; exact IntWalk.i64_in _ (by omega)
  have e3' : IntKind.i64.wrap n = n := IntWalk.i64_in _ (by omega)
  have e4 : ¬ (t : Int) < 0 := by omega
  have e5 : (0 : Int) ≤ (t : Int) := by omega
  have e6 : (t : Int) ≤ (D.code.length : Int) := by omega
  unfold maxLen at hcm
  have hg : g < D.W.heap.size := hS.plt g (by rw [hpv]; rfl)
  have Hsl : Hid (∀ a, (c = t → True) → a = (o + t) → Sl D.W (.slice (some ⟨g, a, none⟩) (D.code.length - t) (c - t)) (vbs (D.code.drop t))) := fun a _ ha => by
    subst ha
    refine sl_mk (by simp) (by omega) (by unfold maxLen; omega) ?_
    have := hcs.drop t
    rwa [vbs, ← List.map_drop] at this
  have Hv := Lib.hid hv
  have Hm := Lib.hid hm
  have Htl := Lib.hid htl
  have Hcl := Lib.hid hcl
  have Hg := Lib.hid hg
  have SZ := Lib.hid hv.fr.size
  clear hv hm hlen hS hpv hcs htl hcl hg e1 hple ht
  have e8 : (t : Int) ≤ (c : Int) := by omega
  generalize hN : D.code.length = N at *
  have HN := Lib.hid hN
  clear hN
  go_enter Try.func126, Try.ntmps126
  go_wp2_with fail
  go_quiet ((go_at_call 69; exact Calls.quiet_of (BufLen_any bb bv bl off m rd _ (Hv.out.call ((Fr.refl [] _).drewN _)).buf Hm.out)))
  clear e2 e3 e3'
  have fa : ∀ o, ((World.drewN w nq).alloc o).frozen? ⟨cb, 0, none⟩ = false := fun o => blk_free ((((Fr.refl [] w).drewN nq).alloc o).get Hv.out.blk (by simp)) 0
  have fc : ∀ o, ((World.drewN w nq).alloc o).cell? ⟨cb, 0, none⟩ = some (.pointer (some ⟨bb, 0, none⟩)) := fun o => (((Fr.refl [] w).drewN nq).alloc o).cell c0 (by simp)
  rcases Nat.lt_or_eq_of_le Htl.out with hlt | heq
  · have e7 : ¬ (N : Int) ≤ (t : Int) := by omega
    go_wp2_with (go_at_call 34; go_must (refine (NewBuffer_any _ _ _ _).mono ?_); rintro e w' ⟨rfl, rfl⟩)
    go_ret
    exact ⟨rfl, Hv.out.rebuf (by first | exact ((Fr.refl [] _).drewN _).alloc _ | exact ((Fr.refl [] _).alloc _).drewN _) (by first | exact blk_new _ _ | exact blk_new w _) (by first | exact SZ.out | (simp; exact SZ.out)) (Hsl.out _ (fun _ => trivial) rfl) (fun g' hg' => by simp [Value.ownBlock] at hg'; have := Hg.out; omega) rfl (by rw [HN.out]; exact Htl.out) (by rw [HN.out]; exact Hcl.out)⟩
  · obtain rfl : t = N := heq
    go_wp2_with (go_at_call 34; go_must (refine (NewBuffer_any _ _ _ _).mono ?_); rintro e w' ⟨rfl, rfl⟩)
    go_ret
    have hS2 := Hsl.out _ (fun _ => trivial) rfl
    simp only [Nat.sub_self] at hS2
    skip
    exact ⟨rfl, Hv.out.rebuf (by first | exact ((Fr.refl [] _).drewN _).alloc _ | exact ((Fr.refl [] _).alloc _).drewN _) (by first | exact blk_new _ _ | exact blk_new w _) (by first | exact SZ.out | (simp; exact SZ.out)) hS2 (fun g' hg' => by simp [Value.ownBlock] at hg'; have := Hg.out; omega) rfl (by rw [HN.out]; exact Htl.out) (by rw [HN.out]; exact Hcl.out)⟩

set_option maxRecDepth 100000 in
set_option maxHeartbeats 4000000 in
theorem ojump_full (D : CxD) (x : LWorld) (cb : Nat) (w : World) (k : List Int) (ps : List LPiece) (p t g o c : Nat) (n : Int) (hS : CxS D x) (hpv : D.pv = .slice (some ⟨g, o, none⟩) D.code.length c) (hcc : D.code.length ≤ c) (hcm : c ≤ maxLen) (h : CxR D cb w k ps p) (ht : (p : Int) + n = (t : Int)) (htl : t ≤ D.code.length)
    (hfull : c = t) (hcs : Cells D.W g o (vbs D.code)) : Calls Try.prog 126 #[.pointer (some ⟨cb, 0, none⟩), .int .i16 n] w (OkP D cb k ps t) := by
  obtain ⟨bb, bv, bl, off, rd, kv, qv, qs, hv⟩ := h
  have hcl := hS.clen
  obtain ⟨m, hm⟩ : ∃ m, off + m = bl.length := ⟨bl.length - off, by have := hv.buf.2.2.2.1; omega⟩
  have hlen : bl.length - off = D.code.length - p := by have := congrArg List.length hv.pos; simpa using this
  have hple := hv.ple
  have c0 : w.cell? ⟨cb, 0, none⟩ = some (.pointer (some ⟨bb, 0, none⟩)) := hv.cell 0
  have c1 : w.cell? ⟨cb, 1, none⟩ = some (.slice (some ⟨g, o, none⟩) D.code.length c) := by rw [← hpv]; exact hv.cell 1
  have f0 := hv.free 0
  have e1 : (D.code.length : Int) - (m : Int) = (p : Int) := by omega
  have e2 : IntKind.i64.wrap ((D.code.length : Int) - (m : Int)) = (p : Int) := by rw [e1]; exact IntWalk.i64_in _ (by omega)
  have e3 : IntKind.i64.wrap ((p : Int) + n) = (t : Int) := by rw [ht]; exact IntWalk.i64_in _ (by omega)
  have e3' : IntKind.i64.wrap n = n := IntWalk.i64_in _ (by omega)
  have e4 : ¬ (t : Int) < 0 := by omega
  have e5 : (0 : Int) ≤ (t : Int) := by omega
  have e6 : (t : Int) ≤ (D.code.length : Int) := by omega
  unfold maxLen at hcm
  have hg : g < D.W.heap.size := hS.plt g (by rw [hpv]; rfl)
  have Hsl : Hid (∀ a, (c = t → True) → a = (o) → Sl D.W (.slice (some ⟨g, a, none⟩) (D.code.length - t) (c - t)) (vbs (D.code.drop t))) := fun a _ ha => by
    subst ha
    have h0 : D.code.drop t = [] := List.drop_of_length_le (by omega)
    rw [h0]
    exact sl_mk (by simp; omega) (by omega) (by unfold maxLen; omega) (fun i v hi => by simp at hi)
  have Hv := Lib.hid hv
  have Hm := Lib.hid hm
  have Htl := Lib.hid htl
  have Hcl := Lib.hid hcl
  have Hg := Lib.hid hg
  have SZ := Lib.hid hv.fr.size
  clear hv hm hlen hS hpv hcs htl hcl hg e1 hple ht
  have e8 : (t : Int) ≤ (c : Int) := by omega
  generalize hN : D.code.length = N at *
  have HN := Lib.hid hN
  clear hN
  go_enter Try.func126, Try.ntmps126
  go_wp2_with fail
  go_quiet ((go_at_call 69; exact Calls.quiet_of (BufLen_any bb bv bl off m rd _ (Hv.out.call ((Fr.refl [] _).drewN _)).buf Hm.out)))
  clear e2 e3 e3'
  have fa : ∀ o, ((World.drewN w nq).alloc o).frozen? ⟨cb, 0, none⟩ = false := fun o => blk_free ((((Fr.refl [] w).drewN nq).alloc o).get Hv.out.blk (by simp)) 0
  have fc : ∀ o, ((World.drewN w nq).alloc o).cell? ⟨cb, 0, none⟩ = some (.pointer (some ⟨bb, 0, none⟩)) := fun o => (((Fr.refl [] w).drewN nq).alloc o).cell c0 (by simp)
  rcases Nat.lt_or_eq_of_le Htl.out with hlt | heq
  · exact absurd hcc (by omega)
  · obtain rfl : t = N := heq
    go_wp2_with (go_at_call 34; go_must (refine (NewBuffer_any _ _ _ _).mono ?_); rintro e w' ⟨rfl, rfl⟩)
    go_ret
    have hS2 := Hsl.out _ (fun _ => trivial) rfl
    simp only [Nat.sub_self] at hS2
    rw [hfull, Nat.sub_self] at hS2
    exact ⟨rfl, Hv.out.rebuf (by first | exact ((Fr.refl [] _).drewN _).alloc _ | exact ((Fr.refl [] _).alloc _).drewN _) (by first | exact blk_new _ _ | exact blk_new w _) (by first | exact SZ.out | (simp; exact SZ.out)) hS2 (fun g' hg' => by simp [Value.ownBlock] at hg'; have := Hg.out; omega) rfl (by rw [HN.out]; exact Htl.out) (by rw [HN.out]; exact Hcl.out)⟩

theorem ojump_any (D : CxD) (x : LWorld) (cb : Nat) (w : World) (k : List Int) (ps : List LPiece) (p t : Nat) (n : Int) (hS : CxS D x) (hpos : 0 < D.code.length) (h : CxR D cb w k ps p) (ht : (p : Int) + n = (t : Int)) (htl : t ≤ D.code.length) :
    Calls Try.prog 126 #[.pointer (some ⟨cb, 0, none⟩), .int .i16 n] w (OkP D cb k ps t) := by
  obtain ⟨g, o, c, hpv, h1, h2, h3⟩ := sl_some hS.prog (by simpa using hpos)
  simp only [List.length_map] at hpv h1
  by_cases hc : c = t
  · exact ojump_full D x cb w k ps p t g o c n hS hpv h1 h2 h ht htl hc h3
  · exact ojump_part D x cb w k ps p t g o c n hS hpv h1 h2 h ht htl hc h3

set_option maxRecDepth 100000 in
set_option maxHeartbeats 4000000 in
theorem oskip_any (D : CxD) (cb : Nat) (w : World) (k : List Int) (ps : List LPiece) (x : LWorld) (p p' t : Nat) (bs : List UInt8) (n : Int) (h : CxR D cb w k ps p) (hS : CxS D x) (ha : AtC D p bs p') (hbl : bs.length = 2) (hn : IntKind.i16.wrap ((leval bs : Nat) : Int) = n) (ht : (p' : Int) + n = (t : Int)) (htl : t ≤ D.code.length) :
    Calls Try.prog 103 #[.int .u8 47, .pointer (some ⟨cb, 0, none⟩)] w (OkP D cb k ps t) := by
  obtain ⟨bb, bv, bl, off, rd, kv, qv, qs, hv⟩ := h
  obtain ⟨ka, kc, rfl⟩ := own_slice hv.own
  have c2 : w.cell? ⟨cb, 2, none⟩ = some (.slice ka k.length kc) := hv.cell 2
  have f2 := hv.free 2
  have Hv := Lib.hid hv
  have SZ := hv.fr.size
  have c0 : w.cell? ⟨cb, 0, none⟩ = some (.pointer (some ⟨bb, 0, none⟩)) := hv.cell 0
  have Ha := Lib.hid ha
  have ca0 : ∀ o, (w.alloc o).cell? ⟨cb, 0, none⟩ = some (.pointer (some ⟨bb, 0, none⟩)) := fun o => ((Fr.refl [] w).alloc o).cell c0 (by simp)
  have Hrm : Hid (off + 2 ≤ bl.length) := by have := hv.room ha; rw [hbl] at this; exact this
  have Htk : Hid ((bl.drop off).take 2 = bs) := hv.tk ha hbl
  have Hbl := Lib.hid hbl
  have Hn := Lib.hid hn
  have Hne : Hid (w.heap.size ≠ bb) := by have := hv.blt.1; show _ ≠ _; omega
  have HS := Lib.hid hS
  have Hpos : Hid (0 < D.code.length) := by have h1 := ha.le; have h2 := ha.add; show _ < _; omega
  have Ht := Lib.hid ht
  have Htl := Lib.hid htl
  clear hv ha hbl hn hS ht htl
  go_enter Try.func103, Try.ntmps103
  go_wp2_with (go_at_call 82; go_must (refine (ReadFixed_i16 true bb bv bl off w.heap.size 0 #[.int .i16 0] 200 0 _ ⟨rd, (Hv.out.call ((Fr.refl [] w).alloc _)).buf⟩ Hrm.out (blk_new w _) rfl Hne.out (by have := Hv.out.blt.1; simp; omega) (fun g hg => by have := Hv.out.blt.2 g hg; simp; omega)).mono ?_); rw [Htk.out, Hn.out]; rintro e w1 ⟨rfl, ⟨rd1, hb1⟩, hp1, hf1⟩; have Hv1 := Lib.hid (Hv.out.past Ha.out (n := 2) Hbl.out hb1 (((Fr.refl [bb] w).alloc _).trans hf1 (fun i hi hlt => by simp at hi hlt; rcases hi with rfl | rfl; simp; omega))); have n1 : w1.cell? ⟨w.heap.size, 0, none⟩ = some (.int .i16 n) := blk_cell hp1 0; clear hb1 hp1 hf1)
  go_wp2_with (go_at_call 126; go_must (refine (ojump_any D x cb _ k ps p' t n HS.out Hpos.out ⟨_, _, _, _, _, _, _, _, Hv1.out⟩ Ht.out Htl.out).mono ?_); rintro e w9 ⟨rfl, hr9⟩; have HR9 := Lib.hid hr9; clear hr9)
  go_wp2_with fail
  go_ret
  exact ⟨rfl, HR9.out⟩

set_option maxRecDepth 100000 in
set_option maxHeartbeats 4000000 in
theorem obra_any (D : CxD) (cb : Nat) (w : World) (k : List Int) (ps : List LPiece) (x : LWorld) (p p' t : Nat) (bs : List UInt8) (n : Int) (y : Int) (h : CxR D cb w (k ++ [y]) ps p) (hy : y ≠ 0) (hk : k.length ≤ 1000000) (hS : CxS D x) (ha : AtC D p bs p') (hbl : bs.length = 2) (hn : IntKind.i16.wrap ((leval bs : Nat) : Int) = n) (ht : (p' : Int) + n = (t : Int)) (htl : t ≤ D.code.length) :
    Calls Try.prog 102 #[.int .u8 40, .pointer (some ⟨cb, 0, none⟩)] w (OkP D cb k ps t) := by
  obtain ⟨bb, bv, bl, off, rd, kv, qv, qs, hv⟩ := h
  have hl : (k ++ [y]).length = k.length + 1 := by simp
  obtain ⟨g, kc, rfl, hk1, hk2, hc⟩ := own_vis hv.own (by omega)
  have cx : w.cell? ⟨g, k.length, none⟩ = some (vi y) := by rw [hc k.length (by omega)]; simp
  rw [hl] at hv
  have c0 : w.cell? ⟨cb, 0, none⟩ = some (.pointer (some ⟨bb, 0, none⟩)) := hv.cell 0
  have Hv := Lib.hid hv
  have Ha := Lib.hid ha
  have SZ := hv.fr.size
  unfold maxLen at hk2
  rw [hl] at hk1
  have e1 : IntKind.i64.wrap (k.length : Int) = (k.length : Int) := IntWalk.i64_in _ (by omega)
  have e2 : (0 : Int) ≤ (k.length : Int) := by omega
  have e3 : (k.length : Int) ≤ (kc : Int) := by omega
  have e5 : (k.length : Int) < (k.length : Int) + 1 := by omega
  have q0 : ¬ ((k.length : Int) + 1 < 1) := by omega
  have hgb : g ≠ bb := by have := hv.kv_ne.2; simp [Value.ownBlock] at this; exact this
  have y0 : (y == 0) = false := by simpa using hy
  have y1 : (y != 0) = true := by simpa using hy
  clear hc hl hy
  have ca0 : ∀ o, (w.alloc o).cell? ⟨cb, 0, none⟩ = some (.pointer (some ⟨bb, 0, none⟩)) := fun o => ((Fr.refl [] w).alloc o).cell c0 (by simp)
  have Hrm : Hid (off + 2 ≤ bl.length) := by have := hv.room ha; rw [hbl] at this; exact this
  have Htk : Hid ((bl.drop off).take 2 = bs) := hv.tk ha hbl
  have Hbl := Lib.hid hbl
  have Hn := Lib.hid hn
  have Hne : Hid (w.heap.size ≠ bb) := by have := hv.blt.1; show _ ≠ _; omega
  have HS := Lib.hid hS
  have Hpos : Hid (0 < D.code.length) := by have h1 := ha.le; have h2 := ha.add; show _ < _; omega
  have Ht := Lib.hid ht
  have Htl := Lib.hid htl
  clear hv ha hbl hn hS ht htl
  go_enter Try.func102, Try.ntmps102
  go_upto_region 3 with (go_at_call 82; go_must (refine (ReadFixed_i16 true bb bv bl off w.heap.size 0 #[.int .i16 0] 200 0 _ ⟨rd, (Hv.out.call ((Fr.refl [] w).alloc _)).buf⟩ Hrm.out (blk_new w _) rfl Hne.out (by have := Hv.out.blt.1; simp; omega) (fun g hg => by have := Hv.out.blt.2 g hg; simp; omega)).mono ?_); rw [Htk.out, Hn.out]; rintro e w1 ⟨rfl, ⟨rd1, hb1⟩, hp1, hf1⟩; have Hv1 := Lib.hid (Hv.out.past Ha.out (n := 2) Hbl.out hb1 (((Fr.refl [bb] w).alloc _).trans hf1 (fun i hi hlt => by simp at hi hlt; rcases hi with rfl | rfl; simp; omega))); have n1 : w1.cell? ⟨w.heap.size, 0, none⟩ = some (.int .i16 n) := blk_cell hp1 0; have d2 : w1.cell? ⟨cb, 2, none⟩ = some (.slice (some ⟨g, 0, none⟩) (k.length + 1) kc) := Hv1.out.cell 2; have x2 := Hv1.out.free 2; have dx : w1.cell? ⟨g, k.length, none⟩ = some (vi y) := (((Fr.refl [bb] w).alloc _).trans hf1 (fun i hi hlt => by simp at hi hlt; rcases hi with rfl | rfl; simp; omega)).cell cx (by simpa using hgb); clear hb1 hp1 hf1)
  have HC : Hid (∀ n, CxR D cb ((w1.drewN n).setCell ⟨cb, 2, none⟩ (.slice (some ⟨g, 0, none⟩) k.length kc)) k ps p') := fun n => ⟨_, _, _, _, _, _, _, _, Hv1.out.cutL ((Fr.refl _ _).drewN _) (by simp)⟩
  have hcw : cb ≠ w.heap.size := by have := lt_heap Hv.out.blk; omega
  have n1a : ∀ m u, ((w1.drewN m).setCell ⟨cb, 2, none⟩ u).cell? ⟨w.heap.size, 0, none⟩ = some (.int .i16 n) := fun m u => (World.cell?_of_block (Below.heap_setCell _ _ _ _ hcw.symm)).trans n1
  clear c0 cx
  go_wp2_with fail
  go_quiet (fail)
  go_wp2_with fail
  go_region_law (fail)
  all_goals
    go_wp2_with (go_at_call 126; go_must (refine (ojump_any D x cb _ k ps p' t n HS.out Hpos.out (HC.out _) Ht.out Htl.out).mono ?_); rintro e w9 ⟨rfl, hr9⟩; have HR9 := Lib.hid hr9; clear hr9)
    go_wp2_with fail
    go_ret
    exact ⟨rfl, HR9.out⟩

set_option maxRecDepth 100000 in
set_option maxHeartbeats 4000000 in
theorem obra_err (D : CxD) (cb : Nat) (w : World) (ps : List LPiece) (p p' : Nat) (bs : List UInt8) (n : Int) (h : CxR D cb w [] ps p) (ha : AtC D p bs p') (hbl : bs.length = 2) (hn : IntKind.i16.wrap ((leval bs : Nat) : Int) = n) :
    Calls Try.prog 102 #[.int .u8 40, .pointer (some ⟨cb, 0, none⟩)] w (ErrP D) := by
  obtain ⟨k, hk⟩ : ∃ k : List Int, k = [] := ⟨[], rfl⟩
  have hkl : k.length = 0 := by rw [hk]; rfl
  rw [← hk] at h
  obtain ⟨bb, bv, bl, off, rd, kv, qv, qs, hv⟩ := h
  obtain ⟨ka, kc, rfl⟩ := own_slice hv.own
  rw [hkl] at hv
  have c0 : w.cell? ⟨cb, 0, none⟩ = some (.pointer (some ⟨bb, 0, none⟩)) := hv.cell 0
  have Hv := Lib.hid hv
  have Ha := Lib.hid ha
  have ca0 : ∀ o, (w.alloc o).cell? ⟨cb, 0, none⟩ = some (.pointer (some ⟨bb, 0, none⟩)) := fun o => ((Fr.refl [] w).alloc o).cell c0 (by simp)
  have Hrm : Hid (off + 2 ≤ bl.length) := by have := hv.room ha; rw [hbl] at this; exact this
  have Htk : Hid ((bl.drop off).take 2 = bs) := hv.tk ha hbl
  have Hbl := Lib.hid hbl
  have Hn := Lib.hid hn
  have Hne : Hid (w.heap.size ≠ bb) := by have := hv.blt.1; show _ ≠ _; omega
  clear hv ha hbl hn hk
  go_enter Try.func102, Try.ntmps102
  go_wp2_with (go_at_call 82; go_must (refine (ReadFixed_i16 true bb bv bl off w.heap.size 0 #[.int .i16 0] 200 0 _ ⟨rd, (Hv.out.call ((Fr.refl [] w).alloc _)).buf⟩ Hrm.out (blk_new w _) rfl Hne.out (by have := Hv.out.blt.1; simp; omega) (fun g hg => by have := Hv.out.blt.2 g hg; simp; omega)).mono ?_); rw [Htk.out, Hn.out]; rintro e w1 ⟨rfl, ⟨rd1, hb1⟩, hp1, hf1⟩; have Hv1 := Lib.hid (Hv.out.past Ha.out (n := 2) Hbl.out hb1 (((Fr.refl [bb] w).alloc _).trans hf1 (fun i hi hlt => by simp at hi hlt; rcases hi with rfl | rfl; simp; omega))); have n1 : w1.cell? ⟨w.heap.size, 0, none⟩ = some (.int .i16 n) := blk_cell hp1 0; have d2 : w1.cell? ⟨cb, 2, none⟩ = some (.slice ka 0 kc) := Hv1.out.cell 2; clear hb1 hp1 hf1)
  go_ret
  exact ⟨.inl ⟨_, _, rfl⟩, Hv1.out.fr⟩
end Go.Proofs.Ytahohmdfllgedaa

namespace Go.Proofs.Ytahohmdfllgedaa
open Go.RowKit

theorem make_bytes (k : IntKind) (n : Nat) (hn : n ≤ 1000) : ∃ C : Array Value, C.size = n ∧ ∀ w, (Instr.makeSlice 23 (.int k (n : Int)) (.int k (n : Int))).run Try.prog w = .ok (.slice (some ⟨w.heap.size, 0, none⟩) n n) (w.alloc (.cells C 5)) := by
  obtain ⟨i, hi, hz, hs, hby⟩ := info_parts sliceB.info
  refine ⟨madeCells (Value.int .u8 0).cells (n * i.size), ?_, fun w => ?_⟩
  · rw [hs, Nat.mul_one]
    exact size_madeCells _ _
  · have h := run_makeSlice (P := Try.prog) (w := w) 23 5 i (.int .u8 0) Try.underlying23 hi hz k k (n : Int) (n : Int) (by omega) (by omega) (by rw [hs]; simp; omega) (by rw [hby]; omega) (by omega)
    simpa using h
theorem own_blk {w : World} {base g n c : Nat} {vs : List Value} (h : w.heap[g]? = some (.cells vs.toArray 5 (0, 0))) (hn : vs.length = n) (hc : c = n) (hb : base ≤ g) (hm : n ≤ 1000) : w.ownsRow base 5 1 (.slice (some ⟨g, 0, none⟩) n c) n vs := by
  subst hc
  refine ⟨by omega, .inr ⟨g, c, vs.toArray, rfl, hb, h, Nat.le_refl _, by unfold maxLen; omega, by simp [hn], by simp [← hn]⟩⟩

set_option maxRecDepth 100000 in
set_option maxHeartbeats 2000000 in
theorem BufRead_zero (b : Nat) (v : Value) (l : List UInt8) (off : Nat) (rd : Bool) (g c : Nat) (cur : Array Value) (w : World) (h : BufR w b v l off rd) (hpos : 0 < l.length)
    (hg : w.heap[g]? = some (.cells cur 5 (0, 0))) (hcur : cur.size = 0) (hgb : g ≠ b) (hgv : v.ownBlock ≠ some g) :
    Calls Try.prog 128 #[.pointer (some ⟨b, 0, none⟩), .slice (some ⟨g, 0, none⟩) 0 c] w fun e w' =>
      e = .returned (.tuple #[.int .i64 0, .nilIface]) ∧ BufR w' b v l off false ∧ w'.heap[g]? = some (.cells #[] 5 (0, 0)) ∧ Fr [b, g] w w' := by
  have hcur0 : cur = #[] := Array.eq_empty_of_size_eq_zero hcur
  obtain ⟨hb, hs, hne, hoff, hl⟩ := h
  obtain ⟨a, cc, rfl, h1, h2, h3, -⟩ := hs.shape
  obtain ⟨gs, os, rfl, hc⟩ := h3 (by omega)
  have hne' : Hid (gs ≠ b) := by show gs ≠ b; simpa [Value.ownBlock] using hne
  have hgv' : Hid (gs ≠ g) := by show gs ≠ g; simpa [Value.ownBlock] using hgv
  have hgb' := Lib.hid hgb
  unfold maxLen at h2
  have c2 : w.cell? ⟨b, 2, none⟩ = some (.bool rd) := by rw [blk_cell hb]; rfl
  have f2 : w.frozen? ⟨b, 2, none⟩ = false := blk_free hb _
  have hb1 : (w.setCell ⟨b, 2, none⟩ (.bool false)).heap[b]? = some (.cells #[.slice (some ⟨gs, os, none⟩) l.length cc, .int .i64 (off : Int), .bool false] 79 (0, 0)) := by simpa using blk_set hb 2 (.bool false)
  have hF1 : Fr [b] w (w.setCell ⟨b, 2, none⟩ (.bool false)) := (Fr.refl _ _).setCell (.inl (by simp)) _
  have hB1 : BufR (w.setCell ⟨b, 2, none⟩ (.bool false)) b (.slice (some ⟨gs, os, none⟩) l.length cc) l off false := ⟨hb1, hs.fr hF1 (by intro g' hg'; simp [Value.ownBlock] at hg'; subst hg'; simpa using hne'.out), by simpa [Value.ownBlock] using hne'.out, by omega, hl⟩
  generalize hw1 : w.setCell ⟨b, 2, none⟩ (.bool false) = w1 at *
  have c0 : w1.cell? ⟨b, 0, none⟩ = some (.slice (some ⟨gs, os, none⟩) l.length cc) := by rw [blk_cell hb1]; rfl
  have c1 : w1.cell? ⟨b, 1, none⟩ = some (.int .i64 (off : Int)) := by rw [blk_cell hb1]; rfl
  have Hg1 : Hid (w1.heap[g]? = some (.cells cur 5 (0, 0))) := hF1.get hg (by simpa using hgb)
  have HB1 := Lib.hid hB1
  have Hb1 := Lib.hid hb1
  have HF1 := Lib.hid hF1
  have Hcur := Lib.hid hcur
  have Hcur0 := Lib.hid hcur0
  have Hs := Lib.hid hs
  have Hw1 := Lib.hid hw1
  clear hb hs hne h1 h3 hgb hgv hc hg hcur hb1 hF1 hB1 hw1 hcur0
  by_cases hlt : off < l.length
  · have hlen : (off : Int) ≤ (l.length : Int) := by omega
    have hcap : (off : Int) ≤ (cc : Int) := by have := Hs.out.shape; obtain ⟨_, _, e, h1, -⟩ := this; simp only [Value.slice.injEq] at e; omega
    have hcap2 : ¬ cc = off := by have := Hs.out.shape; obtain ⟨_, _, e, h1, -⟩ := this; simp only [Value.slice.injEq] at e; omega
    have hx : 0 < l.length - off := by omega
    have hne2 : (((l.length - off : Nat) : Int) == 0) = false := by simp; omega
    go_enter Try.func128, Try.ntmps128
    go_wp2_with (go_at_call 69; rw [Hw1.out]; refine (BufLen_any b _ l off (l.length - off) false _ HB1.out (by omega)).mono ?_; rintro e w' ⟨rfl, k, rfl⟩)
    go_region_held3 (fun w' => w'.cell? ⟨b, 0, none⟩ = some (.slice (some ⟨gs, os, none⟩) l.length cc) ∧ w'.cell? ⟨b, 1, none⟩ = some (.int .i64 (off : Int)))
      (first | exact ⟨HF2.out.cell c0 (by simpa using hgb'.out.symm), HF2.out.cell c1 (by simpa using hgb'.out.symm)⟩ | exact ⟨c0, c1⟩)
      ((refine copy_step (by rfl) _ _ (by rfl) g c (some ⟨gs, os + off, none⟩) 0 (l.length - off) (cc - off) (by rfl) (by rfl) cur Hg1.out Hcur.out [] (by rfl) (Nat.zero_le _) ⟨gs, os + off, none⟩ (by rfl) (fun j v hj => by simp at hj) ?_; intro w2 hg2 hf2; have Hg2 := Lib.hid hg2; have HF2 : Hid (Fr [g] w1 w2) := ⟨hf2.os, hf2.tape, hf2.output, hf2.size, hf2.blk⟩; clear hg2 hf2))
    all_goals
      have hb2 : w2.heap[b]? = some (.cells #[.slice (some ⟨gs, os, none⟩) l.length cc, .int .i64 (off : Int), .bool false] 79 (0, 0)) := HF2.out.get Hb1.out (by simpa using hgb'.out.symm)
      have d1 : w2.cell? ⟨b, 1, none⟩ = some (.int .i64 (off : Int)) := by rw [blk_cell hb2]; rfl
      have d2 : w2.cell? ⟨b, 2, none⟩ = some (.bool false) := by rw [blk_cell hb2]; rfl
      have e1 : w2.frozen? ⟨b, 1, none⟩ = false := blk_free hb2 _
      have e2 : w2.frozen? ⟨b, 2, none⟩ = false := blk_free hb2 _
      have Hb2 := Lib.hid hb2
      clear hb2 c0 c1
      go_wp2
      go_ret2
      refine ⟨rfl, ⟨?_, ?_, by simpa [Value.ownBlock] using hne'.out, by omega, hl⟩, ?_, ?_⟩
      · simpa using blk_set (w := w2.setCell ⟨b, 1, none⟩ (.int .i64 (off : Int))) (blk_set (w := w2) Hb2.out 1 (.int .i64 (off : Int))) 2 (.bool false)
      · refine Hs.out.fr (bs := [b, g]) ((((HF1.out.mono (bs := [b, g]) (by simp)).trans HF2.out (by simp)).setCell (.inl (by simp)) _).setCell (.inl (by simp)) _) ?_
        intro g' hg'; simp [Value.ownBlock] at hg'; subst hg'; simpa using ⟨hne'.out, hgv'.out⟩
      · have := blk_set_other (blk_set_other Hg2.out (i := 1) (u := .int .i64 (off : Int)) hgb'.out) (i := 2) (u := .bool false) hgb'.out
        simpa using this
      · exact (((HF1.out.mono (bs := [b, g]) (by simp)).trans HF2.out (by simp)).setCell (.inl (by simp)) _).setCell (.inl (by simp)) _
  · obtain rfl : off = l.length := by omega
    clear hlt
    go_enter Try.func128, Try.ntmps128
    go_wp2_with (go_at_call 69; rw [Hw1.out]; refine (BufLen_any b _ l l.length 0 false _ HB1.out (by omega)).mono ?_; rintro e w' ⟨rfl, k, rfl⟩)
    go_ret2
    exact ⟨rfl, HB1.out.fr ((Fr.refl [] _).drewN _) (by simp) (by simp), by rw [← Hcur0.out]; exact Hg1.out, ((HF1.out.drewN _).mono (by simp))⟩


set_option maxRecDepth 100000 in
set_option maxHeartbeats 4000000 in
theorem oimplicit_n (D : CxD) (cb : Nat) (w : World) (k : List Int) (ps : List LPiece) (p p0 p' n : Nat) (bs : List UInt8) (R : World → Prop) (h : CxR D cb w k ps p) (ha : AtC D p (uleb n) p0) (ha2 : AtC D p0 bs p') (hbl : bs.length = n) (hn : n ≤ 64) (hb : 0 < n)
    (hcl : ∀ w' opc g, CxR D cb w' k ps p' → w'.ownsRow D.W.heap.size 5 1 (.slice (some ⟨g, 0, none⟩) n n) n (vbs bs) → Calls Try.prog 127 #[.pointer (some ⟨cb, 0, none⟩), .int .u8 opc, .agg #[vi (n : Int), .int .u8 2, .int .u64 0, .slice (some ⟨g, 0, none⟩) n n]] w' (RetP R)) :
    Calls Try.prog 110 #[.int .u8 158, .pointer (some ⟨cb, 0, none⟩)] w (RetP R) := by
  obtain ⟨C, hC, hmk⟩ := make_bytes .u64 n (by omega)
  have Hcl := Lib.hid hcl
  have HCs := Lib.hid hC
  have Ha2 := Lib.hid ha2
  have Hbl := Lib.hid hbl
  clear hcl hC ha2 hbl
  obtain ⟨bb, bv, bl, off, rd, kv, qv, qs, hv⟩ := h
  obtain ⟨ka, kc, rfl⟩ := own_slice hv.own
  have c2 : w.cell? ⟨cb, 2, none⟩ = some (.slice ka k.length kc) := hv.cell 2
  have f2 := hv.free 2
  have Hv := Lib.hid hv
  have SZ := hv.fr.size
  have c0 : w.cell? ⟨cb, 0, none⟩ = some (.pointer (some ⟨bb, 0, none⟩)) := hv.cell 0
  have Ha := Lib.hid ha
  have Hpos : Hid (0 < bl.length) := by have h1 := hv.room ha; have h2 := uleb_pos n; show _ < _; omega
  have Hun : Hid (uval (uleb n) % M64 = n) := by show _ = _; rw [uval_uleb]; exact Nat.mod_eq_of_lt (by unfold M64; omega)
  have Hn := Lib.hid hn
  clear hv ha hn
  have e0 : IntKind.i64.wrap (n : Int) = (n : Int) := IntWalk.i64_in _ (by have := Hn.out; omega)
  have e1 : IntKind.u64.wrap (n : Int) = (n : Int) := by rw [IntKind.wrap_u64]; have := Hn.out; omega
  have hn := Hn.out
  go_enter Try.func110, Try.ntmps110
  go_wp2_with (go_at_call 33; go_must (refine (lDecU_any bb bv bl off rd _ Hv.out.buf (uleb n) (D.code.drop p0) (Hv.out.hp Ha.out) (uleb_ended n) (uleb_le10 (by have := Hn.out; omega))).mono ?_); rw [Hun.out]; rintro e w1 ⟨rfl, hb1, hf1⟩; have hv1 := Hv.out.past Ha.out (n := (uleb n).length) (rfl) hb1 hf1; have Hv1 := Lib.hid hv1; have d2 : w1.cell? ⟨cb, 2, none⟩ = some (.slice ka k.length kc) := hv1.cell 2; have d6 : w1.cell? ⟨cb, 6, none⟩ = some (vi D.cfa) := hv1.cell 6; have d7 : w1.cell? ⟨cb, 7, none⟩ = some (vi D.base) := hv1.cell 7; have d5 : w1.cell? ⟨cb, 5, none⟩ = some (.int .u64 0) := hv1.cell 5; have x2 := hv1.free 2; have SZ1 := hv1.fr.size; have da0 : ∀ o, (w1.alloc o).cell? ⟨cb, 0, none⟩ = some (.pointer (some ⟨bb, 0, none⟩)) := (fun o => ((Fr.refl [] w1).alloc o).cell (hv1.cell 0) (by simp)); have Hrm : Hid (off + (uleb n).length + n ≤ bl.length) := (by have := hv1.room Ha2.out; rw [Hbl.out] at this; exact this); have Hne : Hid (w1.heap.size ≠ bb) := (by have := hv1.blt.1; show _ ≠ _; omega); have Htk : Hid ((bl.drop (off + (uleb n).length)).take n = bs) := hv1.tk Ha2.out Hbl.out; clear hb1 hf1 hv1)
  go_wp2_with (go_at_call 128; go_must (refine (BufRead_any bb bv bl (off + (uleb n).length) true w1.heap.size n n C _ (Hv1.out.call ((Fr.refl [] w1).alloc _)).buf hb Hrm.out (blk_new w1 _) HCs.out Hne.out (Hv1.out.bv_ne SZ1)).mono ?_); rw [Htk.out]; rintro e w2 ⟨rfl, hb2, hg2, hf2⟩; have hf2' : Fr [bb] w1 w2 := (((Fr.refl [bb] w1).alloc _).trans hf2 (fun i hi hlt => by simp at hi hlt; rcases hi with rfl | rfl; simp; omega)); have Hv2 := Lib.hid (Hv1.out.past Ha2.out (n := n) Hbl.out hb2 hf2'); have Ho2 := Lib.hid (own_blk (n := n) (c := n) hg2 (by simp [Hbl.out]) rfl SZ1 (by omega)); clear hb2 hf2 hg2 hf2')
  go_wp2_with (go_at_call 127; go_must (refine (Hcl.out _ _ _ ⟨_, _, _, _, _, _, _, _, Hv2.out⟩ Ho2.out).mono ?_); rintro e w9 ⟨rfl, hr9⟩; have HR9 := Lib.hid hr9; clear hr9)
  go_wp2_with fail
  go_ret
  exact ⟨rfl, HR9.out⟩

set_option maxRecDepth 100000 in
set_option maxHeartbeats 4000000 in
theorem oimplicit_z (D : CxD) (cb : Nat) (w : World) (k : List Int) (ps : List LPiece) (p p0 p' n : Nat) (bs : List UInt8) (R : World → Prop) (h : CxR D cb w k ps p) (ha : AtC D p (uleb n) p0) (ha2 : AtC D p0 bs p') (hbl : bs.length = n) (hn : n ≤ 64) (hb : n = 0)
    (hcl : ∀ w' opc g, CxR D cb w' k ps p' → w'.ownsRow D.W.heap.size 5 1 (.slice (some ⟨g, 0, none⟩) n n) n (vbs bs) → Calls Try.prog 127 #[.pointer (some ⟨cb, 0, none⟩), .int .u8 opc, .agg #[vi (n : Int), .int .u8 2, .int .u64 0, .slice (some ⟨g, 0, none⟩) n n]] w' (RetP R)) :
    Calls Try.prog 110 #[.int .u8 158, .pointer (some ⟨cb, 0, none⟩)] w (RetP R) := by
  subst hb
  obtain ⟨C, hC, hmk⟩ := make_bytes .u64 0 (by omega)
  have hmk0 : ∀ w, (Instr.makeSlice 23 (.int .u64 0) (.int .u64 0)).run Try.prog w = .ok (.slice (some ⟨w.heap.size, 0, none⟩) 0 0) (w.alloc (.cells C 5)) := hmk
  have Hcl := Lib.hid hcl
  have HCs := Lib.hid hC
  have Ha2 := Lib.hid ha2
  have Hbl := Lib.hid hbl
  clear hcl hC ha2 hbl
  have Hbs : Hid (bs = []) := List.eq_nil_of_length_eq_zero Hbl.out
  obtain ⟨bb, bv, bl, off, rd, kv, qv, qs, hv⟩ := h
  obtain ⟨ka, kc, rfl⟩ := own_slice hv.own
  have c2 : w.cell? ⟨cb, 2, none⟩ = some (.slice ka k.length kc) := hv.cell 2
  have f2 := hv.free 2
  have Hv := Lib.hid hv
  have SZ := hv.fr.size
  have c0 : w.cell? ⟨cb, 0, none⟩ = some (.pointer (some ⟨bb, 0, none⟩)) := hv.cell 0
  have Ha := Lib.hid ha
  have Hpos : Hid (0 < bl.length) := by have h1 := hv.room ha; have h2 := uleb_pos 0; show _ < _; omega
  have Hun : Hid (uval (uleb 0) % M64 = 0) := by show _ = _; rw [uval_uleb]; exact Nat.mod_eq_of_lt (by unfold M64; omega)
  have Hn := Lib.hid hn
  clear hv ha hn
  have e0 : IntKind.i64.wrap (0 : Int) = (0 : Int) := IntWalk.i64_in _ (by have := Hn.out; omega)
  have e1 : IntKind.u64.wrap (0 : Int) = (0 : Int) := by rw [IntKind.wrap_u64]; have := Hn.out; omega
  have hn := Hn.out
  go_enter Try.func110, Try.ntmps110
  go_wp2_with (go_at_call 33; go_must (refine (lDecU_any bb bv bl off rd _ Hv.out.buf (uleb 0) (D.code.drop p0) (Hv.out.hp Ha.out) (uleb_ended 0) (uleb_le10 (by have := Hn.out; omega))).mono ?_); rw [Hun.out]; rintro e w1 ⟨rfl, hb1, hf1⟩; have hv1 := Hv.out.past Ha.out (n := (uleb 0).length) (rfl) hb1 hf1; have Hv1 := Lib.hid hv1; have d2 : w1.cell? ⟨cb, 2, none⟩ = some (.slice ka k.length kc) := hv1.cell 2; have d6 : w1.cell? ⟨cb, 6, none⟩ = some (vi D.cfa) := hv1.cell 6; have d7 : w1.cell? ⟨cb, 7, none⟩ = some (vi D.base) := hv1.cell 7; have d5 : w1.cell? ⟨cb, 5, none⟩ = some (.int .u64 0) := hv1.cell 5; have x2 := hv1.free 2; have SZ1 := hv1.fr.size; have da0 : ∀ o, (w1.alloc o).cell? ⟨cb, 0, none⟩ = some (.pointer (some ⟨bb, 0, none⟩)) := (fun o => ((Fr.refl [] w1).alloc o).cell (hv1.cell 0) (by simp)); have Hrm : Hid (off + (uleb 0).length + 0 ≤ bl.length) := (by have := hv1.room Ha2.out; rw [Hbl.out] at this; exact this); have Hne : Hid (w1.heap.size ≠ bb) := (by have := hv1.blt.1; show _ ≠ _; omega); have Htk : Hid ((bl.drop (off + (uleb 0).length)).take 0 = bs) := hv1.tk Ha2.out Hbl.out; clear hb1 hf1 hv1)
  go_wp2_with (go_at_call 128; go_must (refine (BufRead_zero bb bv bl (off + (uleb 0).length) true w1.heap.size 0 C _ (Hv1.out.call ((Fr.refl [] w1).alloc _)).buf Hpos.out (blk_new w1 _) HCs.out Hne.out (Hv1.out.bv_ne SZ1)).mono ?_); rintro e w2 ⟨rfl, hb2, hg2, hf2⟩; have hf2' : Fr [bb] w1 w2 := (((Fr.refl [bb] w1).alloc _).trans hf2 (fun i hi hlt => by simp at hi hlt; rcases hi with rfl | rfl; simp; omega)); have Hv2 := Lib.hid (Hv1.out.past Ha2.out (n := 0) Hbl.out hb2 hf2'); have Ho2 := Lib.hid (own_blk (n := 0) (c := 0) (vs := vbs bs) (by rw [Hbs.out]; exact hg2) (by rw [Hbs.out]; rfl) rfl SZ1 (by omega)); clear hb2 hf2 hg2 hf2')
  go_wp2_with (go_at_call 127; go_must (refine (Hcl.out _ _ _ ⟨_, _, _, _, _, _, _, _, Hv2.out⟩ Ho2.out).mono ?_); rintro e w9 ⟨rfl, hr9⟩; have HR9 := Lib.hid hr9; clear hr9)
  go_wp2_with fail
  go_ret
  exact ⟨rfl, HR9.out⟩
end Go.Proofs.Ytahohmdfllgedaa
