/- The machine: operations on the stack alone. Printed by gen_eio.py. -/
import Derived.Test.YtahohmdfllgedaaCa9
set_option linter.unusedVariables false
set_option linter.unusedSimpArgs false
namespace Go.Proofs.Ytahohmdfllgedaa
open Go.RowKit

/-- An operation went through: the machine behind it. -/
def OkP (D : CxD) (cb : Nat) (k : List Int) (ps : List LPiece) (p : Nat) (e : Ending) (w' : World) : Prop := e = .returned .nilIface ∧ CxR D cb w' k ps p
/-- An operation told an error, or the call died. -/
def ErrP (D : CxD) (e : Ending) (w' : World) : Prop := ((∃ t x, e = .returned (.iface t x)) ∨ (∃ t x, e = .panicked [{ v := .iface t x, recovered := false }])) ∧ Fr [] D.W w'
set_option maxHeartbeats 400000 in
theorem errorsNew_any (s : ByteArray) (w : World) : Calls Try.prog 61 #[.string s] w fun e w' => (∃ t x, e = .returned (.iface t x)) ∧ Fr [] w w' := by
  go_enter Try.func61, Try.ntmps61
  go_wp2_with fail
  go_ret
  exact ⟨⟨_, _, rfl⟩, (Fr.refl _ _).alloc _⟩

set_option maxRecDepth 100000 in
set_option maxHeartbeats 4000000 in
theorem oliteral_any (D : CxD) (cb : Nat) (w : World) (k : List Int) (ps : List LPiece) (p : Nat) (op : Nat) (h : CxR D cb w k ps p) (hk : k.length ≤ 1000000) (h1 : 48 ≤ op) (h2 : op < 80) :
    Calls Try.prog 104 #[.int .u8 (op : Int), .pointer (some ⟨cb, 0, none⟩)] w (OkP D cb (k ++ [(op : Int) - 48]) ps p) := by
  obtain ⟨bb, bv, bl, off, rd, kv, qv, qs, hv⟩ := h
  obtain ⟨ka, kc, rfl⟩ := own_slice hv.own
  have c2 : w.cell? ⟨cb, 2, none⟩ = some (.slice ka k.length kc) := hv.cell 2
  have f2 := hv.free 2
  have Hv := Lib.hid hv
  have SZ := hv.fr.size
  clear hv
  go_enter Try.func104, Try.ntmps104
  go_wp2_with (at_builtin; go_must (refine wpList_app4 sliceI64 _ rfl _ _ rfl D.W.heap.size _ k.length (vis k) rfl (Hv.out.ow (by first | exact ((Fr.refl [] _).alloc _) | exact ((Fr.refl [] _).alloc _).drew | exact ((Fr.refl [] _).drew).alloc _ | exact (((Fr.refl [] _).drewN _).alloc _) | exact ((((Fr.refl [] _).drewN _).alloc _).drew) | exact ((((Fr.refl [] _).drewN _).drew).alloc _))) (some ⟨w.heap.size, 0, none⟩) 1 1 [_] rfl rfl (fun h => by cases h) (news_one rfl _ _) (by simp [Value.oneCell']) (by omega) (by decide) (by simp; omega) ?_); intro a8 c8' w8 ho8 hf8 hg8 ht8; have HP := Lib.hid (Hv.out.pushed (by first | exact ((Fr.refl [] _).alloc _) | exact ((Fr.refl [] _).alloc _).drew | exact ((Fr.refl [] _).drew).alloc _ | exact (((Fr.refl [] _).drewN _).alloc _) | exact ((((Fr.refl [] _).drewN _).alloc _).drew) | exact ((((Fr.refl [] _).drewN _).drew).alloc _)) hf8 ht8 ho8); have hb8 := Hv.out.app (by first | exact ((Fr.refl [] _).alloc _) | exact ((Fr.refl [] _).alloc _).drew | exact ((Fr.refl [] _).drew).alloc _ | exact (((Fr.refl [] _).drewN _).alloc _) | exact ((((Fr.refl [] _).drewN _).alloc _).drew) | exact ((((Fr.refl [] _).drewN _).drew).alloc _)) ht8; have s2 : w8.cell? ⟨cb, 2, none⟩ = some (.slice ka k.length kc) := blk_cell hb8 2; have z2 : w8.frozen? ⟨cb, 2, none⟩ = false := blk_free hb8 2; clear ho8 hf8 hg8 ht8 hb8)
  go_wp2_with fail
  go_ret
  exact ⟨rfl, HP.out⟩

set_option maxRecDepth 100000 in
set_option maxHeartbeats 4000000 in
theorem ocfa_any (D : CxD) (cb : Nat) (w : World) (k : List Int) (ps : List LPiece) (p : Nat) (h : CxR D cb w k ps p) (hk : k.length ≤ 1000000) (hc : ¬ D.cfa = 0) :
    Calls Try.prog 109 #[.int .u8 156, .pointer (some ⟨cb, 0, none⟩)] w (OkP D cb (k ++ [D.cfa]) ps p) := by
  obtain ⟨bb, bv, bl, off, rd, kv, qv, qs, hv⟩ := h
  obtain ⟨ka, kc, rfl⟩ := own_slice hv.own
  have c2 : w.cell? ⟨cb, 2, none⟩ = some (.slice ka k.length kc) := hv.cell 2
  have f2 := hv.free 2
  have Hv := Lib.hid hv
  have SZ := hv.fr.size
  have c2a : ∀ o, (w.alloc o).drew.cell? ⟨cb, 2, none⟩ = some (.slice ka k.length kc) := fun o => (((Fr.refl [] w).alloc o).drew).cell c2 (by simp)
  have c6 : w.cell? ⟨cb, 6, none⟩ = some (vi D.cfa) := hv.cell 6
  have q : (D.cfa == 0) = false := by simpa using hc
  clear hv hc
  go_enter Try.func109, Try.ntmps109
  go_wp2_with fail
  go_region_law ((go_must (refine step_app4 sliceI64 _ (by rfl) _ _ (by rfl) D.W.heap.size _ k.length (vis k) (by rfl) (Hv.out.ow (by first | exact ((Fr.refl [] _).alloc _) | exact ((Fr.refl [] _).alloc _).drew | exact ((Fr.refl [] _).drew).alloc _ | exact (((Fr.refl [] _).drewN _).alloc _) | exact ((((Fr.refl [] _).drewN _).alloc _).drew) | exact ((((Fr.refl [] _).drewN _).drew).alloc _))) (some ⟨w.heap.size, 0, none⟩) 1 1 [_] (by rfl) (by rfl) (fun h => by cases h) (by first | exact news_blk (blk_new w _) | exact news_blk (blk_new w.drew _)) (by simp [Value.oneCell']) (by omega) (by decide) (by simp; omega) ?_); intro a8 c8' w8 ho8 hf8 hg8 ht8; have HP := Lib.hid (Hv.out.pushed (by first | exact ((Fr.refl [] _).alloc _) | exact ((Fr.refl [] _).alloc _).drew | exact ((Fr.refl [] _).drew).alloc _ | exact (((Fr.refl [] _).drewN _).alloc _) | exact ((((Fr.refl [] _).drewN _).alloc _).drew) | exact ((((Fr.refl [] _).drewN _).drew).alloc _)) hf8 ht8 ho8); have hb8 := Hv.out.app (by first | exact ((Fr.refl [] _).alloc _) | exact ((Fr.refl [] _).alloc _).drew | exact ((Fr.refl [] _).drew).alloc _ | exact (((Fr.refl [] _).drewN _).alloc _) | exact ((((Fr.refl [] _).drewN _).alloc _).drew) | exact ((((Fr.refl [] _).drewN _).drew).alloc _)) ht8; have s2 : w8.cell? ⟨cb, 2, none⟩ = some (.slice ka k.length kc) := blk_cell hb8 2; have z2 : w8.frozen? ⟨cb, 2, none⟩ = false := blk_free hb8 2; clear ho8 hf8 hg8 ht8 hb8))
  all_goals
    go_wp2_with fail
    go_ret
    exact ⟨rfl, HP.out⟩

set_option maxRecDepth 100000 in
set_option maxHeartbeats 4000000 in
theorem odup_err (D : CxD) (cb : Nat) (w : World) (k : List Int) (ps : List LPiece) (p : Nat) (h : CxR D cb w k ps p) (hk : k.length = 0) :
    Calls Try.prog 94 #[.int .u8 18, .pointer (some ⟨cb, 0, none⟩)] w (ErrP D) := by
  obtain ⟨bb, bv, bl, off, rd, kv, qv, qs, hv⟩ := h
  obtain ⟨ka, kc, rfl⟩ := own_slice hv.own
  have c2 : w.cell? ⟨cb, 2, none⟩ = some (.slice ka k.length kc) := hv.cell 2
  have f2 := hv.free 2
  have Hv := Lib.hid hv
  have SZ := hv.fr.size
  rw [hk] at c2
  clear hv
  go_enter Try.func94, Try.ntmps94
  go_wp2_with fail
  go_ret
  exact ⟨.inl ⟨_, _, rfl⟩, Hv.out.fr⟩

set_option maxRecDepth 100000 in
set_option maxHeartbeats 4000000 in
theorem odrop_err (D : CxD) (cb : Nat) (w : World) (k : List Int) (ps : List LPiece) (p : Nat) (h : CxR D cb w k ps p) (hk : k.length = 0) :
    Calls Try.prog 95 #[.int .u8 19, .pointer (some ⟨cb, 0, none⟩)] w (ErrP D) := by
  obtain ⟨bb, bv, bl, off, rd, kv, qv, qs, hv⟩ := h
  obtain ⟨ka, kc, rfl⟩ := own_slice hv.own
  have c2 : w.cell? ⟨cb, 2, none⟩ = some (.slice ka k.length kc) := hv.cell 2
  have f2 := hv.free 2
  have Hv := Lib.hid hv
  have SZ := hv.fr.size
  rw [hk] at c2
  clear hv
  go_enter Try.func95, Try.ntmps95
  go_wp2_with fail
  go_ret
  exact ⟨.inl ⟨_, _, rfl⟩, Hv.out.fr⟩

set_option maxRecDepth 100000 in
set_option maxHeartbeats 4000000 in
theorem oswap_err (D : CxD) (cb : Nat) (w : World) (k : List Int) (ps : List LPiece) (p : Nat) (h : CxR D cb w k ps p) (hk : k.length < 2) :
    Calls Try.prog 97 #[.int .u8 22, .pointer (some ⟨cb, 0, none⟩)] w (ErrP D) := by
  obtain ⟨bb, bv, bl, off, rd, kv, qv, qs, hv⟩ := h
  obtain ⟨ka, kc, rfl⟩ := own_slice hv.own
  have c2 : w.cell? ⟨cb, 2, none⟩ = some (.slice ka k.length kc) := hv.cell 2
  have f2 := hv.free 2
  have Hv := Lib.hid hv
  have SZ := hv.fr.size
  clear hv
  go_enter Try.func97, Try.ntmps97
  go_wp2_with fail
  go_ret
  exact ⟨.inl ⟨_, _, rfl⟩, Hv.out.fr⟩

set_option maxRecDepth 100000 in
set_option maxHeartbeats 4000000 in
theorem orot_err (D : CxD) (cb : Nat) (w : World) (k : List Int) (ps : List LPiece) (p : Nat) (h : CxR D cb w k ps p) (hk : k.length < 3) :
    Calls Try.prog 98 #[.int .u8 23, .pointer (some ⟨cb, 0, none⟩)] w (ErrP D) := by
  obtain ⟨bb, bv, bl, off, rd, kv, qv, qs, hv⟩ := h
  obtain ⟨ka, kc, rfl⟩ := own_slice hv.own
  have c2 : w.cell? ⟨cb, 2, none⟩ = some (.slice ka k.length kc) := hv.cell 2
  have f2 := hv.free 2
  have Hv := Lib.hid hv
  have SZ := hv.fr.size
  clear hv
  go_enter Try.func98, Try.ntmps98
  go_wp2_with fail
  go_ret
  exact ⟨.inl ⟨_, _, rfl⟩, Hv.out.fr⟩

set_option maxRecDepth 100000 in
set_option maxHeartbeats 4000000 in
theorem ounary_err25 (D : CxD) (cb : Nat) (w : World) (k : List Int) (ps : List LPiece) (p : Nat) (h : CxR D cb w k ps p) (hk : k.length = 0) :
    Calls Try.prog 99 #[.int .u8 25, .pointer (some ⟨cb, 0, none⟩)] w (ErrP D) := by
  obtain ⟨bb, bv, bl, off, rd, kv, qv, qs, hv⟩ := h
  obtain ⟨ka, kc, rfl⟩ := own_slice hv.own
  have c2 : w.cell? ⟨cb, 2, none⟩ = some (.slice ka k.length kc) := hv.cell 2
  have f2 := hv.free 2
  have Hv := Lib.hid hv
  have SZ := hv.fr.size
  rw [hk] at c2
  clear hv
  go_enter Try.func99, Try.ntmps99
  go_wp2_with fail
  go_ret
  exact ⟨.inl ⟨_, _, rfl⟩, Hv.out.fr⟩

set_option maxRecDepth 100000 in
set_option maxHeartbeats 4000000 in
theorem ounary_err31 (D : CxD) (cb : Nat) (w : World) (k : List Int) (ps : List LPiece) (p : Nat) (h : CxR D cb w k ps p) (hk : k.length = 0) :
    Calls Try.prog 99 #[.int .u8 31, .pointer (some ⟨cb, 0, none⟩)] w (ErrP D) := by
  obtain ⟨bb, bv, bl, off, rd, kv, qv, qs, hv⟩ := h
  obtain ⟨ka, kc, rfl⟩ := own_slice hv.own
  have c2 : w.cell? ⟨cb, 2, none⟩ = some (.slice ka k.length kc) := hv.cell 2
  have f2 := hv.free 2
  have Hv := Lib.hid hv
  have SZ := hv.fr.size
  rw [hk] at c2
  clear hv
  go_enter Try.func99, Try.ntmps99
  go_wp2_with fail
  go_ret
  exact ⟨.inl ⟨_, _, rfl⟩, Hv.out.fr⟩

set_option maxRecDepth 100000 in
set_option maxHeartbeats 4000000 in
theorem ounary_err32 (D : CxD) (cb : Nat) (w : World) (k : List Int) (ps : List LPiece) (p : Nat) (h : CxR D cb w k ps p) (hk : k.length = 0) :
    Calls Try.prog 99 #[.int .u8 32, .pointer (some ⟨cb, 0, none⟩)] w (ErrP D) := by
  obtain ⟨bb, bv, bl, off, rd, kv, qv, qs, hv⟩ := h
  obtain ⟨ka, kc, rfl⟩ := own_slice hv.own
  have c2 : w.cell? ⟨cb, 2, none⟩ = some (.slice ka k.length kc) := hv.cell 2
  have f2 := hv.free 2
  have Hv := Lib.hid hv
  have SZ := hv.fr.size
  rw [hk] at c2
  clear hv
  go_enter Try.func99, Try.ntmps99
  go_wp2_with fail
  go_ret
  exact ⟨.inl ⟨_, _, rfl⟩, Hv.out.fr⟩

set_option maxRecDepth 100000 in
set_option maxHeartbeats 4000000 in
theorem odup_any (D : CxD) (cb : Nat) (w : World) (k : List Int) (ps : List LPiece) (p : Nat) (h : CxR D cb w k ps p) (hk : k.length ≤ 1000000) (h1 : 0 < k.length) :
    Calls Try.prog 94 #[.int .u8 18, .pointer (some ⟨cb, 0, none⟩)] w (OkP D cb (k ++ [k[k.length - 1]'(by omega)]) ps p) := by
  obtain ⟨bb, bv, bl, off, rd, kv, qv, qs, hv⟩ := h
  obtain ⟨g, kc, rfl, hk1, hk2, hc⟩ := own_vis hv.own (by omega)
  have c2 : w.cell? ⟨cb, 2, none⟩ = some (.slice (some ⟨g, 0, none⟩) k.length kc) := hv.cell 2
  have f2 := hv.free 2
  have Hv := Lib.hid hv
  have SZ := hv.fr.size
  unfold maxLen at hk2
  have c2a : ∀ o, (w.alloc o).drew.cell? ⟨cb, 2, none⟩ = some (.slice (some ⟨g, 0, none⟩) k.length kc) := fun o => (((Fr.refl [] w).alloc o).drew).cell c2 (by simp)
  have cx := hc (k.length - 1) (by omega)
  generalize k[k.length - 1]'(by omega) = y at *
  have e1 : IntKind.i64.wrap ((k.length : Int) - 1) = ((k.length - 1 : Nat) : Int) := by rw [IntWalk.i64_in _ (by omega)]; omega
  have e2 : ((k.length - 1 : Nat) : Int) < (k.length : Int) := by omega
  have e3 : (0 : Int) ≤ ((k.length - 1 : Nat) : Int) := by omega
  have q0 : ((k.length : Int) == 0) = false := by rw [beq_eq_false_iff_ne]; omega
  clear hv hc
  go_enter Try.func94, Try.ntmps94
  go_wp2_with fail
  go_region_law ((go_must (refine step_app4 sliceI64 _ (by rfl) _ _ (by rfl) D.W.heap.size _ k.length (vis k) (by rfl) (Hv.out.ow (by first | exact ((Fr.refl [] _).alloc _) | exact ((Fr.refl [] _).alloc _).drew | exact ((Fr.refl [] _).drew).alloc _ | exact (((Fr.refl [] _).drewN _).alloc _) | exact ((((Fr.refl [] _).drewN _).alloc _).drew) | exact ((((Fr.refl [] _).drewN _).drew).alloc _))) (some ⟨w.heap.size, 0, none⟩) 1 1 [_] (by rfl) (by rfl) (fun h => by cases h) (by first | exact news_blk (blk_new w _) | exact news_blk (blk_new w.drew _)) (by simp [Value.oneCell']) (by omega) (by decide) (by simp; omega) ?_); intro a8 c8' w8 ho8 hf8 hg8 ht8; have HP := Lib.hid (Hv.out.pushed (by first | exact ((Fr.refl [] _).alloc _) | exact ((Fr.refl [] _).alloc _).drew | exact ((Fr.refl [] _).drew).alloc _ | exact (((Fr.refl [] _).drewN _).alloc _) | exact ((((Fr.refl [] _).drewN _).alloc _).drew) | exact ((((Fr.refl [] _).drewN _).drew).alloc _)) hf8 ht8 ho8); have hb8 := Hv.out.app (by first | exact ((Fr.refl [] _).alloc _) | exact ((Fr.refl [] _).alloc _).drew | exact ((Fr.refl [] _).drew).alloc _ | exact (((Fr.refl [] _).drewN _).alloc _) | exact ((((Fr.refl [] _).drewN _).alloc _).drew) | exact ((((Fr.refl [] _).drewN _).drew).alloc _)) ht8; have s2 : w8.cell? ⟨cb, 2, none⟩ = some (.slice (some ⟨g, 0, none⟩) k.length kc) := blk_cell hb8 2; have z2 : w8.frozen? ⟨cb, 2, none⟩ = false := blk_free hb8 2; clear ho8 hf8 hg8 ht8 hb8))
  all_goals
    go_wp2_with fail
    go_ret
    exact ⟨rfl, HP.out⟩

set_option maxRecDepth 100000 in
set_option maxHeartbeats 4000000 in
theorem odrop_any (D : CxD) (cb : Nat) (w : World) (k : List Int) (ps : List LPiece) (p : Nat) (h : CxR D cb w k ps p) (h1 : 0 < k.length) :
    Calls Try.prog 95 #[.int .u8 19, .pointer (some ⟨cb, 0, none⟩)] w (OkP D cb (k.take (k.length - 1)) ps p) := by
  obtain ⟨bb, bv, bl, off, rd, kv, qv, qs, hv⟩ := h
  obtain ⟨g, kc, rfl, hk1, hk2, hc⟩ := own_vis hv.own (by omega)
  have c2 : w.cell? ⟨cb, 2, none⟩ = some (.slice (some ⟨g, 0, none⟩) k.length kc) := hv.cell 2
  have f2 := hv.free 2
  have Hv := Lib.hid hv
  have SZ := hv.fr.size
  unfold maxLen at hk2
  have e1 : IntKind.i64.wrap ((k.length : Int) - 1) = ((k.length - 1 : Nat) : Int) := by rw [IntWalk.i64_in _ (by omega)]; omega
  have e2 : ((k.length - 1 : Nat) : Int) ≤ (kc : Int) := by omega
  have e3 : (0 : Int) ≤ ((k.length - 1 : Nat) : Int) := by omega
  have q0 : ((k.length : Int) == 0) = false := by rw [beq_eq_false_iff_ne]; omega
  clear hv hc
  go_enter Try.func95, Try.ntmps95
  go_wp2_with fail
  go_region_law (fail)
  all_goals
    go_wp2_with fail
    go_ret
    have HC : CxR D cb (w.setCell ⟨cb, 2, none⟩ (.slice (some ⟨g, 0, none⟩) (k.length - 1) kc)) (k.take (k.length - 1)) ps p := ⟨_, _, _, _, _, _, _, _, Hv.out.cut (Fr.refl _ _) (by omega)⟩
    exact ⟨rfl, HC.call (by first | exact (Fr.refl _ _).drew | exact (Fr.refl _ _).drewN _)⟩

set_option maxRecDepth 100000 in
set_option maxHeartbeats 4000000 in
theorem ounary_25a (D : CxD) (cb : Nat) (w : World) (k : List Int) (ps : List LPiece) (p : Nat) (y : Int) (h : CxR D cb w k ps p) (h1 : 0 < k.length) (hy : k[k.length - 1]'(by omega) = y) (hs : y < 0) :
    Calls Try.prog 99 #[.int .u8 25, .pointer (some ⟨cb, 0, none⟩)] w (OkP D cb (k.set (k.length - 1) (wrap64 (-y))) ps p) := by
  obtain ⟨bb, bv, bl, off, rd, kv, qv, qs, hv⟩ := h
  obtain ⟨g, kc, rfl, hk1, hk2, hc⟩ := own_vis hv.own (by omega)
  have c2 : w.cell? ⟨cb, 2, none⟩ = some (.slice (some ⟨g, 0, none⟩) k.length kc) := hv.cell 2
  have f2 := hv.free 2
  have Hv := Lib.hid hv
  have SZ := hv.fr.size
  unfold maxLen at hk2
  have cx := hc (k.length - 1) (by omega)
  rw [hy] at cx
  have e1 : IntKind.i64.wrap ((k.length : Int) - 1) = ((k.length - 1 : Nat) : Int) := by rw [IntWalk.i64_in _ (by omega)]; omega
  have e2 : ((k.length - 1 : Nat) : Int) < (k.length : Int) := by omega
  have e3 : (0 : Int) ≤ ((k.length - 1 : Nat) : Int) := by omega
  have q0 : ¬ ((k.length : Int) < 1) := by omega
  have fr1 : ∀ i, w.frozen? ⟨g, i, none⟩ = false := fun i => own_free hv.own i
  have HP := Lib.hid (hv.poke (i := k.length - 1) (by omega) (wrap64 (-y)))
  clear hv hc hy
  go_enter Try.func99, Try.ntmps99
  go_wp2_with fail
  go_quiet (fail)
  go_wp2_with fail
  go_region_law (fail)
  all_goals
    go_wp2_with fail
    go_ret
    have HC : CxR D cb (w.setCell ⟨g, k.length - 1, none⟩ (vi (wrap64 (-y)))) (k.set (k.length - 1) (wrap64 (-y))) ps p := ⟨_, _, _, _, _, _, _, _, HP.out⟩
    exact ⟨rfl, HC.call (by first | exact (Fr.refl _ _).drew | exact (Fr.refl _ _).drewN _)⟩

set_option maxRecDepth 100000 in
set_option maxHeartbeats 4000000 in
theorem ounary_25b (D : CxD) (cb : Nat) (w : World) (k : List Int) (ps : List LPiece) (p : Nat) (y : Int) (h : CxR D cb w k ps p) (h1 : 0 < k.length) (hy : k[k.length - 1]'(by omega) = y) (hs : ¬ y < 0) :
    Calls Try.prog 99 #[.int .u8 25, .pointer (some ⟨cb, 0, none⟩)] w (OkP D cb (k.set (k.length - 1) (y)) ps p) := by
  obtain ⟨bb, bv, bl, off, rd, kv, qv, qs, hv⟩ := h
  obtain ⟨g, kc, rfl, hk1, hk2, hc⟩ := own_vis hv.own (by omega)
  have c2 : w.cell? ⟨cb, 2, none⟩ = some (.slice (some ⟨g, 0, none⟩) k.length kc) := hv.cell 2
  have f2 := hv.free 2
  have Hv := Lib.hid hv
  have SZ := hv.fr.size
  unfold maxLen at hk2
  have cx := hc (k.length - 1) (by omega)
  rw [hy] at cx
  have e1 : IntKind.i64.wrap ((k.length : Int) - 1) = ((k.length - 1 : Nat) : Int) := by rw [IntWalk.i64_in _ (by omega)]; omega
  have e2 : ((k.length - 1 : Nat) : Int) < (k.length : Int) := by omega
  have e3 : (0 : Int) ≤ ((k.length - 1 : Nat) : Int) := by omega
  have q0 : ¬ ((k.length : Int) < 1) := by omega
  have fr1 : ∀ i, w.frozen? ⟨g, i, none⟩ = false := fun i => own_free hv.own i
  have HP := Lib.hid (hv.poke (i := k.length - 1) (by omega) (y))
  clear hv hc hy
  go_enter Try.func99, Try.ntmps99
  go_wp2_with fail
  go_quiet (fail)
  go_wp2_with fail
  go_region_law (fail)
  all_goals
    go_wp2_with fail
    go_ret
    have HC : CxR D cb (w.setCell ⟨g, k.length - 1, none⟩ (vi (y))) (k.set (k.length - 1) (y)) ps p := ⟨_, _, _, _, _, _, _, _, HP.out⟩
    exact ⟨rfl, HC.call (by first | exact (Fr.refl _ _).drew | exact (Fr.refl _ _).drewN _)⟩

set_option maxRecDepth 100000 in
set_option maxHeartbeats 4000000 in
theorem ounary_31 (D : CxD) (cb : Nat) (w : World) (k : List Int) (ps : List LPiece) (p : Nat) (y : Int) (h : CxR D cb w k ps p) (h1 : 0 < k.length) (hy : k[k.length - 1]'(by omega) = y) :
    Calls Try.prog 99 #[.int .u8 31, .pointer (some ⟨cb, 0, none⟩)] w (OkP D cb (k.set (k.length - 1) (wrap64 (-y))) ps p) := by
  obtain ⟨bb, bv, bl, off, rd, kv, qv, qs, hv⟩ := h
  obtain ⟨g, kc, rfl, hk1, hk2, hc⟩ := own_vis hv.own (by omega)
  have c2 : w.cell? ⟨cb, 2, none⟩ = some (.slice (some ⟨g, 0, none⟩) k.length kc) := hv.cell 2
  have f2 := hv.free 2
  have Hv := Lib.hid hv
  have SZ := hv.fr.size
  unfold maxLen at hk2
  have cx := hc (k.length - 1) (by omega)
  rw [hy] at cx
  have e1 : IntKind.i64.wrap ((k.length : Int) - 1) = ((k.length - 1 : Nat) : Int) := by rw [IntWalk.i64_in _ (by omega)]; omega
  have e2 : ((k.length - 1 : Nat) : Int) < (k.length : Int) := by omega
  have e3 : (0 : Int) ≤ ((k.length - 1 : Nat) : Int) := by omega
  have q0 : ¬ ((k.length : Int) < 1) := by omega
  have fr1 : ∀ i, w.frozen? ⟨g, i, none⟩ = false := fun i => own_free hv.own i
  have HP := Lib.hid (hv.poke (i := k.length - 1) (by omega) (wrap64 (-y)))
  clear hv hc hy
  go_enter Try.func99, Try.ntmps99
  go_wp2_with fail
  go_quiet (fail)
  go_wp2_with fail
  go_region_law (fail)
  all_goals
    go_wp2_with fail
    go_ret
    have HC : CxR D cb (w.setCell ⟨g, k.length - 1, none⟩ (vi (wrap64 (-y)))) (k.set (k.length - 1) (wrap64 (-y))) ps p := ⟨_, _, _, _, _, _, _, _, HP.out⟩
    exact ⟨rfl, HC.call (by first | exact (Fr.refl _ _).drew | exact (Fr.refl _ _).drewN _)⟩

set_option maxRecDepth 100000 in
set_option maxHeartbeats 4000000 in
theorem ounary_32 (D : CxD) (cb : Nat) (w : World) (k : List Int) (ps : List LPiece) (p : Nat) (y : Int) (h : CxR D cb w k ps p) (h1 : 0 < k.length) (hy : k[k.length - 1]'(by omega) = y) :
    Calls Try.prog 99 #[.int .u8 32, .pointer (some ⟨cb, 0, none⟩)] w (OkP D cb (k.set (k.length - 1) (bits .xor .i64 (-1) y)) ps p) := by
  obtain ⟨bb, bv, bl, off, rd, kv, qv, qs, hv⟩ := h
  obtain ⟨g, kc, rfl, hk1, hk2, hc⟩ := own_vis hv.own (by omega)
  have c2 : w.cell? ⟨cb, 2, none⟩ = some (.slice (some ⟨g, 0, none⟩) k.length kc) := hv.cell 2
  have f2 := hv.free 2
  have Hv := Lib.hid hv
  have SZ := hv.fr.size
  unfold maxLen at hk2
  have cx := hc (k.length - 1) (by omega)
  rw [hy] at cx
  have e1 : IntKind.i64.wrap ((k.length : Int) - 1) = ((k.length - 1 : Nat) : Int) := by rw [IntWalk.i64_in _ (by omega)]; omega
  have e2 : ((k.length - 1 : Nat) : Int) < (k.length : Int) := by omega
  have e3 : (0 : Int) ≤ ((k.length - 1 : Nat) : Int) := by omega
  have q0 : ¬ ((k.length : Int) < 1) := by omega
  have fr1 : ∀ i, w.frozen? ⟨g, i, none⟩ = false := fun i => own_free hv.own i
  have HP := Lib.hid (hv.poke (i := k.length - 1) (by omega) (bits .xor .i64 (-1) y))
  clear hv hc hy
  go_enter Try.func99, Try.ntmps99
  go_wp2_with fail
  go_quiet (fail)
  go_wp2_with fail
  go_region_law (fail)
  all_goals
    go_wp2_with fail
    go_ret
    have HC : CxR D cb (w.setCell ⟨g, k.length - 1, none⟩ (vi (bits .xor .i64 (-1) y))) (k.set (k.length - 1) (bits .xor .i64 (-1) y)) ps p := ⟨_, _, _, _, _, _, _, _, HP.out⟩
    exact ⟨rfl, HC.call (by first | exact (Fr.refl _ _).drew | exact (Fr.refl _ _).drewN _)⟩
end Go.Proofs.Ytahohmdfllgedaa
