/- The machine: operations of two values. Printed by gen_ebin.py. -/
import Derived.Test.YtahohmdfllgedaaCa10
set_option linter.unusedVariables false
set_option linter.unusedSimpArgs false
namespace Go.Proofs.Ytahohmdfllgedaa
open Go.RowKit

set_option maxHeartbeats 400000 in
theorem bool2int_any (b : Bool) (w : World) : Calls Try.prog 125 #[.bool b] w fun e w' => e = .returned (vi (truthI b)) ∧ w = w' := by
  cases b
  all_goals
    go_enter Try.func125, Try.ntmps125
    go_wp2_with fail
    go_ret
    exact ⟨rfl, rfl⟩

set_option maxRecDepth 100000 in
set_option maxHeartbeats 4000000 in
theorem obin_26 (D : CxD) (cb : Nat) (w : World) (k : List Int) (a b : Int) (ps : List LPiece) (p : Nat) (h : CxR D cb w (k ++ [a, b]) ps p) (hk : k.length ≤ 1000000) :
    Calls Try.prog 100 #[.int .u8 26, .pointer (some ⟨cb, 0, none⟩)] w (OkP D cb (k ++ [bits .and .i64 a b]) ps p) := by
  obtain ⟨bb, bv, bl, off, rd, kv, qv, qs, hv⟩ := h
  have hl : (k ++ [a, b]).length = k.length + 2 := by simp
  obtain ⟨g, kc, rfl, hk1, hk2, hc⟩ := own_vis hv.own (by omega)
  have c2 : w.cell? ⟨cb, 2, none⟩ = some (.slice (some ⟨g, 0, none⟩) (k.length + 2) kc) := by have := hv.cell 2; rw [hl] at this; exact this
  have f2 := hv.free 2
  have cx : w.cell? ⟨g, k.length + 1, none⟩ = some (vi b) := by rw [hc (k.length + 1) (by omega)]; simp
  have cy : w.cell? ⟨g, k.length, none⟩ = some (vi a) := by rw [hc k.length (by omega)]; simp
  rw [hl] at hv
  have Hv := Lib.hid hv
  have SZ := hv.fr.size
  unfold maxLen at hk2
  rw [hl] at hk1
  have e1 : IntKind.i64.wrap (k.length : Int) = (k.length : Int) := IntWalk.i64_in _ (by omega)
  have e1' : IntKind.i64.wrap ((k.length : Int) + 1) = (k.length : Int) + 1 := IntWalk.i64_in _ (by omega)
  have e2 : (0 : Int) ≤ (k.length : Int) := by omega
  have e2' : (0 : Int) ≤ (k.length : Int) + 1 := by omega
  have e3 : (k.length : Int) ≤ (kc : Int) := by omega
  have e4 : ((k.length : Int) + 1).toNat = k.length + 1 := by omega
  have q0 : ¬ ((k.length : Int) + 2 < 2) := by omega
  clear hv hc hl
  have HC : Hid (∀ n, CxV D cb ((w.drewN n).setCell ⟨cb, 2, none⟩ (.slice (some ⟨g, 0, none⟩) k.length kc)) k ps p bb bv bl off rd (.slice (some ⟨g, 0, none⟩) k.length kc) qv qs) := fun n => Hv.out.cutL ((Fr.refl _ _).drewN _) (by simp)
  go_enter Try.func100, Try.ntmps100
  go_wp2_with fail
  go_quiet (fail)
  go_wp2_with fail
  go_quiet (fail)
  go_wp2_with fail
  go_region_law (fail)
  all_goals
    go_wp2_with (at_builtin; go_must (refine wpList_app4 sliceI64 _ rfl _ _ rfl D.W.heap.size _ k.length (vis k) rfl ((HC.out _).ow ((Fr.refl [] _).alloc _)) (some ⟨w.heap.size, 0, none⟩) 1 1 [_] rfl rfl (fun h => by cases h) (news_one (by simp [World.setCell]) _ _) (by simp [Value.oneCell']) (by omega) (by decide) (by simp [World.setCell]; omega) ?_); intro a8 c8' w8 ho8 hf8 hg8 ht8; have HP := Lib.hid ((HC.out _).pushed ((Fr.refl [] _).alloc _) hf8 ht8 ho8); have hb8 := (HC.out _).app ((Fr.refl [] _).alloc _) ht8; have s2 : w8.cell? ⟨cb, 2, none⟩ = some (.slice (some ⟨g, 0, none⟩) k.length kc) := blk_cell hb8 2; have z2 : w8.frozen? ⟨cb, 2, none⟩ = false := blk_free hb8 2; clear ho8 hf8 hg8 ht8 hb8)
    go_ret
    exact ⟨rfl, HP.out⟩

set_option maxRecDepth 100000 in
set_option maxHeartbeats 4000000 in
theorem obin_33 (D : CxD) (cb : Nat) (w : World) (k : List Int) (a b : Int) (ps : List LPiece) (p : Nat) (h : CxR D cb w (k ++ [a, b]) ps p) (hk : k.length ≤ 1000000) :
    Calls Try.prog 100 #[.int .u8 33, .pointer (some ⟨cb, 0, none⟩)] w (OkP D cb (k ++ [bits .or .i64 a b]) ps p) := by
  obtain ⟨bb, bv, bl, off, rd, kv, qv, qs, hv⟩ := h
  have hl : (k ++ [a, b]).length = k.length + 2 := by simp
  obtain ⟨g, kc, rfl, hk1, hk2, hc⟩ := own_vis hv.own (by omega)
  have c2 : w.cell? ⟨cb, 2, none⟩ = some (.slice (some ⟨g, 0, none⟩) (k.length + 2) kc) := by have := hv.cell 2; rw [hl] at this; exact this
  have f2 := hv.free 2
  have cx : w.cell? ⟨g, k.length + 1, none⟩ = some (vi b) := by rw [hc (k.length + 1) (by omega)]; simp
  have cy : w.cell? ⟨g, k.length, none⟩ = some (vi a) := by rw [hc k.length (by omega)]; simp
  rw [hl] at hv
  have Hv := Lib.hid hv
  have SZ := hv.fr.size
  unfold maxLen at hk2
  rw [hl] at hk1
  have e1 : IntKind.i64.wrap (k.length : Int) = (k.length : Int) := IntWalk.i64_in _ (by omega)
  have e1' : IntKind.i64.wrap ((k.length : Int) + 1) = (k.length : Int) + 1 := IntWalk.i64_in _ (by omega)
  have e2 : (0 : Int) ≤ (k.length : Int) := by omega
  have e2' : (0 : Int) ≤ (k.length : Int) + 1 := by omega
  have e3 : (k.length : Int) ≤ (kc : Int) := by omega
  have e4 : ((k.length : Int) + 1).toNat = k.length + 1 := by omega
  have q0 : ¬ ((k.length : Int) + 2 < 2) := by omega
  clear hv hc hl
  have HC : Hid (∀ n, CxV D cb ((w.drewN n).setCell ⟨cb, 2, none⟩ (.slice (some ⟨g, 0, none⟩) k.length kc)) k ps p bb bv bl off rd (.slice (some ⟨g, 0, none⟩) k.length kc) qv qs) := fun n => Hv.out.cutL ((Fr.refl _ _).drewN _) (by simp)
  go_enter Try.func100, Try.ntmps100
  go_wp2_with fail
  go_quiet (fail)
  go_wp2_with fail
  go_quiet (fail)
  go_wp2_with fail
  go_region_law (fail)
  all_goals
    go_wp2_with (at_builtin; go_must (refine wpList_app4 sliceI64 _ rfl _ _ rfl D.W.heap.size _ k.length (vis k) rfl ((HC.out _).ow ((Fr.refl [] _).alloc _)) (some ⟨w.heap.size, 0, none⟩) 1 1 [_] rfl rfl (fun h => by cases h) (news_one (by simp [World.setCell]) _ _) (by simp [Value.oneCell']) (by omega) (by decide) (by simp [World.setCell]; omega) ?_); intro a8 c8' w8 ho8 hf8 hg8 ht8; have HP := Lib.hid ((HC.out _).pushed ((Fr.refl [] _).alloc _) hf8 ht8 ho8); have hb8 := (HC.out _).app ((Fr.refl [] _).alloc _) ht8; have s2 : w8.cell? ⟨cb, 2, none⟩ = some (.slice (some ⟨g, 0, none⟩) k.length kc) := blk_cell hb8 2; have z2 : w8.frozen? ⟨cb, 2, none⟩ = false := blk_free hb8 2; clear ho8 hf8 hg8 ht8 hb8)
    go_ret
    exact ⟨rfl, HP.out⟩

set_option maxRecDepth 100000 in
set_option maxHeartbeats 4000000 in
theorem obin_39 (D : CxD) (cb : Nat) (w : World) (k : List Int) (a b : Int) (ps : List LPiece) (p : Nat) (h : CxR D cb w (k ++ [a, b]) ps p) (hk : k.length ≤ 1000000) :
    Calls Try.prog 100 #[.int .u8 39, .pointer (some ⟨cb, 0, none⟩)] w (OkP D cb (k ++ [bits .xor .i64 a b]) ps p) := by
  obtain ⟨bb, bv, bl, off, rd, kv, qv, qs, hv⟩ := h
  have hl : (k ++ [a, b]).length = k.length + 2 := by simp
  obtain ⟨g, kc, rfl, hk1, hk2, hc⟩ := own_vis hv.own (by omega)
  have c2 : w.cell? ⟨cb, 2, none⟩ = some (.slice (some ⟨g, 0, none⟩) (k.length + 2) kc) := by have := hv.cell 2; rw [hl] at this; exact this
  have f2 := hv.free 2
  have cx : w.cell? ⟨g, k.length + 1, none⟩ = some (vi b) := by rw [hc (k.length + 1) (by omega)]; simp
  have cy : w.cell? ⟨g, k.length, none⟩ = some (vi a) := by rw [hc k.length (by omega)]; simp
  rw [hl] at hv
  have Hv := Lib.hid hv
  have SZ := hv.fr.size
  unfold maxLen at hk2
  rw [hl] at hk1
  have e1 : IntKind.i64.wrap (k.length : Int) = (k.length : Int) := IntWalk.i64_in _ (by omega)
  have e1' : IntKind.i64.wrap ((k.length : Int) + 1) = (k.length : Int) + 1 := IntWalk.i64_in _ (by omega)
  have e2 : (0 : Int) ≤ (k.length : Int) := by omega
  have e2' : (0 : Int) ≤ (k.length : Int) + 1 := by omega
  have e3 : (k.length : Int) ≤ (kc : Int) := by omega
  have e4 : ((k.length : Int) + 1).toNat = k.length + 1 := by omega
  have q0 : ¬ ((k.length : Int) + 2 < 2) := by omega
  clear hv hc hl
  have HC : Hid (∀ n, CxV D cb ((w.drewN n).setCell ⟨cb, 2, none⟩ (.slice (some ⟨g, 0, none⟩) k.length kc)) k ps p bb bv bl off rd (.slice (some ⟨g, 0, none⟩) k.length kc) qv qs) := fun n => Hv.out.cutL ((Fr.refl _ _).drewN _) (by simp)
  go_enter Try.func100, Try.ntmps100
  go_wp2_with fail
  go_quiet (fail)
  go_wp2_with fail
  go_quiet (fail)
  go_wp2_with fail
  go_region_law (fail)
  all_goals
    go_wp2_with (at_builtin; go_must (refine wpList_app4 sliceI64 _ rfl _ _ rfl D.W.heap.size _ k.length (vis k) rfl ((HC.out _).ow ((Fr.refl [] _).alloc _)) (some ⟨w.heap.size, 0, none⟩) 1 1 [_] rfl rfl (fun h => by cases h) (news_one (by simp [World.setCell]) _ _) (by simp [Value.oneCell']) (by omega) (by decide) (by simp [World.setCell]; omega) ?_); intro a8 c8' w8 ho8 hf8 hg8 ht8; have HP := Lib.hid ((HC.out _).pushed ((Fr.refl [] _).alloc _) hf8 ht8 ho8); have hb8 := (HC.out _).app ((Fr.refl [] _).alloc _) ht8; have s2 : w8.cell? ⟨cb, 2, none⟩ = some (.slice (some ⟨g, 0, none⟩) k.length kc) := blk_cell hb8 2; have z2 : w8.frozen? ⟨cb, 2, none⟩ = false := blk_free hb8 2; clear ho8 hf8 hg8 ht8 hb8)
    go_ret
    exact ⟨rfl, HP.out⟩

set_option maxRecDepth 100000 in
set_option maxHeartbeats 4000000 in
theorem obin_34 (D : CxD) (cb : Nat) (w : World) (k : List Int) (a b : Int) (ps : List LPiece) (p : Nat) (h : CxR D cb w (k ++ [a, b]) ps p) (hk : k.length ≤ 1000000) :
    Calls Try.prog 100 #[.int .u8 34, .pointer (some ⟨cb, 0, none⟩)] w (OkP D cb (k ++ [wrap64 (a + b)]) ps p) := by
  obtain ⟨bb, bv, bl, off, rd, kv, qv, qs, hv⟩ := h
  have hl : (k ++ [a, b]).length = k.length + 2 := by simp
  obtain ⟨g, kc, rfl, hk1, hk2, hc⟩ := own_vis hv.own (by omega)
  have c2 : w.cell? ⟨cb, 2, none⟩ = some (.slice (some ⟨g, 0, none⟩) (k.length + 2) kc) := by have := hv.cell 2; rw [hl] at this; exact this
  have f2 := hv.free 2
  have cx : w.cell? ⟨g, k.length + 1, none⟩ = some (vi b) := by rw [hc (k.length + 1) (by omega)]; simp
  have cy : w.cell? ⟨g, k.length, none⟩ = some (vi a) := by rw [hc k.length (by omega)]; simp
  rw [hl] at hv
  have Hv := Lib.hid hv
  have SZ := hv.fr.size
  unfold maxLen at hk2
  rw [hl] at hk1
  have e1 : IntKind.i64.wrap (k.length : Int) = (k.length : Int) := IntWalk.i64_in _ (by omega)
  have e1' : IntKind.i64.wrap ((k.length : Int) + 1) = (k.length : Int) + 1 := IntWalk.i64_in _ (by omega)
  have e2 : (0 : Int) ≤ (k.length : Int) := by omega
  have e2' : (0 : Int) ≤ (k.length : Int) + 1 := by omega
  have e3 : (k.length : Int) ≤ (kc : Int) := by omega
  have e4 : ((k.length : Int) + 1).toNat = k.length + 1 := by omega
  have q0 : ¬ ((k.length : Int) + 2 < 2) := by omega
  clear hv hc hl
  have HC : Hid (∀ n, CxV D cb ((w.drewN n).setCell ⟨cb, 2, none⟩ (.slice (some ⟨g, 0, none⟩) k.length kc)) k ps p bb bv bl off rd (.slice (some ⟨g, 0, none⟩) k.length kc) qv qs) := fun n => Hv.out.cutL ((Fr.refl _ _).drewN _) (by simp)
  go_enter Try.func100, Try.ntmps100
  go_wp2_with fail
  go_quiet (fail)
  go_wp2_with fail
  go_quiet (fail)
  go_wp2_with fail
  go_region_law (fail)
  all_goals
    go_wp2_with (at_builtin; go_must (refine wpList_app4 sliceI64 _ rfl _ _ rfl D.W.heap.size _ k.length (vis k) rfl ((HC.out _).ow ((Fr.refl [] _).alloc _)) (some ⟨w.heap.size, 0, none⟩) 1 1 [_] rfl rfl (fun h => by cases h) (news_one (by simp [World.setCell]) _ _) (by simp [Value.oneCell']) (by omega) (by decide) (by simp [World.setCell]; omega) ?_); intro a8 c8' w8 ho8 hf8 hg8 ht8; have HP := Lib.hid ((HC.out _).pushed ((Fr.refl [] _).alloc _) hf8 ht8 ho8); have hb8 := (HC.out _).app ((Fr.refl [] _).alloc _) ht8; have s2 : w8.cell? ⟨cb, 2, none⟩ = some (.slice (some ⟨g, 0, none⟩) k.length kc) := blk_cell hb8 2; have z2 : w8.frozen? ⟨cb, 2, none⟩ = false := blk_free hb8 2; clear ho8 hf8 hg8 ht8 hb8)
    go_ret
    exact ⟨rfl, HP.out⟩

set_option maxRecDepth 100000 in
set_option maxHeartbeats 4000000 in
theorem obin_28 (D : CxD) (cb : Nat) (w : World) (k : List Int) (a b : Int) (ps : List LPiece) (p : Nat) (h : CxR D cb w (k ++ [a, b]) ps p) (hk : k.length ≤ 1000000) :
    Calls Try.prog 100 #[.int .u8 28, .pointer (some ⟨cb, 0, none⟩)] w (OkP D cb (k ++ [wrap64 (a - b)]) ps p) := by
  obtain ⟨bb, bv, bl, off, rd, kv, qv, qs, hv⟩ := h
  have hl : (k ++ [a, b]).length = k.length + 2 := by simp
  obtain ⟨g, kc, rfl, hk1, hk2, hc⟩ := own_vis hv.own (by omega)
  have c2 : w.cell? ⟨cb, 2, none⟩ = some (.slice (some ⟨g, 0, none⟩) (k.length + 2) kc) := by have := hv.cell 2; rw [hl] at this; exact this
  have f2 := hv.free 2
  have cx : w.cell? ⟨g, k.length + 1, none⟩ = some (vi b) := by rw [hc (k.length + 1) (by omega)]; simp
  have cy : w.cell? ⟨g, k.length, none⟩ = some (vi a) := by rw [hc k.length (by omega)]; simp
  rw [hl] at hv
  have Hv := Lib.hid hv
  have SZ := hv.fr.size
  unfold maxLen at hk2
  rw [hl] at hk1
  have e1 : IntKind.i64.wrap (k.length : Int) = (k.length : Int) := IntWalk.i64_in _ (by omega)
  have e1' : IntKind.i64.wrap ((k.length : Int) + 1) = (k.length : Int) + 1 := IntWalk.i64_in _ (by omega)
  have e2 : (0 : Int) ≤ (k.length : Int) := by omega
  have e2' : (0 : Int) ≤ (k.length : Int) + 1 := by omega
  have e3 : (k.length : Int) ≤ (kc : Int) := by omega
  have e4 : ((k.length : Int) + 1).toNat = k.length + 1 := by omega
  have q0 : ¬ ((k.length : Int) + 2 < 2) := by omega
  clear hv hc hl
  have HC : Hid (∀ n, CxV D cb ((w.drewN n).setCell ⟨cb, 2, none⟩ (.slice (some ⟨g, 0, none⟩) k.length kc)) k ps p bb bv bl off rd (.slice (some ⟨g, 0, none⟩) k.length kc) qv qs) := fun n => Hv.out.cutL ((Fr.refl _ _).drewN _) (by simp)
  go_enter Try.func100, Try.ntmps100
  go_wp2_with fail
  go_quiet (fail)
  go_wp2_with fail
  go_quiet (fail)
  go_wp2_with fail
  go_region_law (fail)
  all_goals
    go_wp2_with (at_builtin; go_must (refine wpList_app4 sliceI64 _ rfl _ _ rfl D.W.heap.size _ k.length (vis k) rfl ((HC.out _).ow ((Fr.refl [] _).alloc _)) (some ⟨w.heap.size, 0, none⟩) 1 1 [_] rfl rfl (fun h => by cases h) (news_one (by simp [World.setCell]) _ _) (by simp [Value.oneCell']) (by omega) (by decide) (by simp [World.setCell]; omega) ?_); intro a8 c8' w8 ho8 hf8 hg8 ht8; have HP := Lib.hid ((HC.out _).pushed ((Fr.refl [] _).alloc _) hf8 ht8 ho8); have hb8 := (HC.out _).app ((Fr.refl [] _).alloc _) ht8; have s2 : w8.cell? ⟨cb, 2, none⟩ = some (.slice (some ⟨g, 0, none⟩) k.length kc) := blk_cell hb8 2; have z2 : w8.frozen? ⟨cb, 2, none⟩ = false := blk_free hb8 2; clear ho8 hf8 hg8 ht8 hb8)
    go_ret
    exact ⟨rfl, HP.out⟩

set_option maxRecDepth 100000 in
set_option maxHeartbeats 4000000 in
theorem obin_30 (D : CxD) (cb : Nat) (w : World) (k : List Int) (a b : Int) (ps : List LPiece) (p : Nat) (h : CxR D cb w (k ++ [a, b]) ps p) (hk : k.length ≤ 1000000) :
    Calls Try.prog 100 #[.int .u8 30, .pointer (some ⟨cb, 0, none⟩)] w (OkP D cb (k ++ [wrap64 (a * b)]) ps p) := by
  obtain ⟨bb, bv, bl, off, rd, kv, qv, qs, hv⟩ := h
  have hl : (k ++ [a, b]).length = k.length + 2 := by simp
  obtain ⟨g, kc, rfl, hk1, hk2, hc⟩ := own_vis hv.own (by omega)
  have c2 : w.cell? ⟨cb, 2, none⟩ = some (.slice (some ⟨g, 0, none⟩) (k.length + 2) kc) := by have := hv.cell 2; rw [hl] at this; exact this
  have f2 := hv.free 2
  have cx : w.cell? ⟨g, k.length + 1, none⟩ = some (vi b) := by rw [hc (k.length + 1) (by omega)]; simp
  have cy : w.cell? ⟨g, k.length, none⟩ = some (vi a) := by rw [hc k.length (by omega)]; simp
  rw [hl] at hv
  have Hv := Lib.hid hv
  have SZ := hv.fr.size
  unfold maxLen at hk2
  rw [hl] at hk1
  have e1 : IntKind.i64.wrap (k.length : Int) = (k.length : Int) := IntWalk.i64_in _ (by omega)
  have e1' : IntKind.i64.wrap ((k.length : Int) + 1) = (k.length : Int) + 1 := IntWalk.i64_in _ (by omega)
  have e2 : (0 : Int) ≤ (k.length : Int) := by omega
  have e2' : (0 : Int) ≤ (k.length : Int) + 1 := by omega
  have e3 : (k.length : Int) ≤ (kc : Int) := by omega
  have e4 : ((k.length : Int) + 1).toNat = k.length + 1 := by omega
  have q0 : ¬ ((k.length : Int) + 2 < 2) := by omega
  clear hv hc hl
  have HC : Hid (∀ n, CxV D cb ((w.drewN n).setCell ⟨cb, 2, none⟩ (.slice (some ⟨g, 0, none⟩) k.length kc)) k ps p bb bv bl off rd (.slice (some ⟨g, 0, none⟩) k.length kc) qv qs) := fun n => Hv.out.cutL ((Fr.refl _ _).drewN _) (by simp)
  go_enter Try.func100, Try.ntmps100
  go_wp2_with fail
  go_quiet (fail)
  go_wp2_with fail
  go_quiet (fail)
  go_wp2_with fail
  go_region_law (fail)
  all_goals
    go_wp2_with (at_builtin; go_must (refine wpList_app4 sliceI64 _ rfl _ _ rfl D.W.heap.size _ k.length (vis k) rfl ((HC.out _).ow ((Fr.refl [] _).alloc _)) (some ⟨w.heap.size, 0, none⟩) 1 1 [_] rfl rfl (fun h => by cases h) (news_one (by simp [World.setCell]) _ _) (by simp [Value.oneCell']) (by omega) (by decide) (by simp [World.setCell]; omega) ?_); intro a8 c8' w8 ho8 hf8 hg8 ht8; have HP := Lib.hid ((HC.out _).pushed ((Fr.refl [] _).alloc _) hf8 ht8 ho8); have hb8 := (HC.out _).app ((Fr.refl [] _).alloc _) ht8; have s2 : w8.cell? ⟨cb, 2, none⟩ = some (.slice (some ⟨g, 0, none⟩) k.length kc) := blk_cell hb8 2; have z2 : w8.frozen? ⟨cb, 2, none⟩ = false := blk_free hb8 2; clear ho8 hf8 hg8 ht8 hb8)
    go_ret
    exact ⟨rfl, HP.out⟩

set_option maxRecDepth 100000 in
set_option maxHeartbeats 4000000 in
theorem obin_41 (D : CxD) (cb : Nat) (w : World) (k : List Int) (a b : Int) (ps : List LPiece) (p : Nat) (h : CxR D cb w (k ++ [a, b]) ps p) (hk : k.length ≤ 1000000) :
    Calls Try.prog 100 #[.int .u8 41, .pointer (some ⟨cb, 0, none⟩)] w (OkP D cb (k ++ [truthI (decide (a = b))]) ps p) := by
  obtain ⟨bb, bv, bl, off, rd, kv, qv, qs, hv⟩ := h
  have hl : (k ++ [a, b]).length = k.length + 2 := by simp
  obtain ⟨g, kc, rfl, hk1, hk2, hc⟩ := own_vis hv.own (by omega)
  have c2 : w.cell? ⟨cb, 2, none⟩ = some (.slice (some ⟨g, 0, none⟩) (k.length + 2) kc) := by have := hv.cell 2; rw [hl] at this; exact this
  have f2 := hv.free 2
  have cx : w.cell? ⟨g, k.length + 1, none⟩ = some (vi b) := by rw [hc (k.length + 1) (by omega)]; simp
  have cy : w.cell? ⟨g, k.length, none⟩ = some (vi a) := by rw [hc k.length (by omega)]; simp
  rw [hl] at hv
  have Hv := Lib.hid hv
  have SZ := hv.fr.size
  unfold maxLen at hk2
  rw [hl] at hk1
  have e1 : IntKind.i64.wrap (k.length : Int) = (k.length : Int) := IntWalk.i64_in _ (by omega)
  have e1' : IntKind.i64.wrap ((k.length : Int) + 1) = (k.length : Int) + 1 := IntWalk.i64_in _ (by omega)
  have e2 : (0 : Int) ≤ (k.length : Int) := by omega
  have e2' : (0 : Int) ≤ (k.length : Int) + 1 := by omega
  have e3 : (k.length : Int) ≤ (kc : Int) := by omega
  have e4 : ((k.length : Int) + 1).toNat = k.length + 1 := by omega
  have q0 : ¬ ((k.length : Int) + 2 < 2) := by omega
  clear hv hc hl
  have HC : Hid (∀ n, CxV D cb ((w.drewN n).setCell ⟨cb, 2, none⟩ (.slice (some ⟨g, 0, none⟩) k.length kc)) k ps p bb bv bl off rd (.slice (some ⟨g, 0, none⟩) k.length kc) qv qs) := fun n => Hv.out.cutL ((Fr.refl _ _).drewN _) (by simp)
  go_enter Try.func100, Try.ntmps100
  go_wp2_with fail
  go_quiet (fail)
  go_wp2_with fail
  go_quiet (fail)
  go_wp2_with fail
  go_region_law (fail)
  all_goals
    go_wp2_with (first | (go_at_call 125; refine (bool2int_any _ _).mono ?_; rintro e w' ⟨rfl, rfl⟩) | (at_builtin; go_must (refine wpList_app4 sliceI64 _ rfl _ _ rfl D.W.heap.size _ k.length (vis k) rfl ((HC.out _).ow ((Fr.refl [] _).alloc _)) (some ⟨w.heap.size, 0, none⟩) 1 1 [_] rfl rfl (fun h => by cases h) (news_one (by simp [World.setCell]) _ _) (by simp [Value.oneCell']) (by omega) (by decide) (by simp [World.setCell]; omega) ?_); intro a8 c8' w8 ho8 hf8 hg8 ht8; have HP := Lib.hid ((HC.out _).pushed ((Fr.refl [] _).alloc _) hf8 ht8 ho8); have hb8 := (HC.out _).app ((Fr.refl [] _).alloc _) ht8; have s2 : w8.cell? ⟨cb, 2, none⟩ = some (.slice (some ⟨g, 0, none⟩) k.length kc) := blk_cell hb8 2; have z2 : w8.frozen? ⟨cb, 2, none⟩ = false := blk_free hb8 2; clear ho8 hf8 hg8 ht8 hb8))
    go_ret
    exact ⟨rfl, HP.out⟩

set_option maxRecDepth 100000 in
set_option maxHeartbeats 4000000 in
theorem obin_46 (D : CxD) (cb : Nat) (w : World) (k : List Int) (a b : Int) (ps : List LPiece) (p : Nat) (h : CxR D cb w (k ++ [a, b]) ps p) (hk : k.length ≤ 1000000) :
    Calls Try.prog 100 #[.int .u8 46, .pointer (some ⟨cb, 0, none⟩)] w (OkP D cb (k ++ [truthI (a != b)]) ps p) := by
  obtain ⟨bb, bv, bl, off, rd, kv, qv, qs, hv⟩ := h
  have hl : (k ++ [a, b]).length = k.length + 2 := by simp
  obtain ⟨g, kc, rfl, hk1, hk2, hc⟩ := own_vis hv.own (by omega)
  have c2 : w.cell? ⟨cb, 2, none⟩ = some (.slice (some ⟨g, 0, none⟩) (k.length + 2) kc) := by have := hv.cell 2; rw [hl] at this; exact this
  have f2 := hv.free 2
  have cx : w.cell? ⟨g, k.length + 1, none⟩ = some (vi b) := by rw [hc (k.length + 1) (by omega)]; simp
  have cy : w.cell? ⟨g, k.length, none⟩ = some (vi a) := by rw [hc k.length (by omega)]; simp
  rw [hl] at hv
  have Hv := Lib.hid hv
  have SZ := hv.fr.size
  unfold maxLen at hk2
  rw [hl] at hk1
  have e1 : IntKind.i64.wrap (k.length : Int) = (k.length : Int) := IntWalk.i64_in _ (by omega)
  have e1' : IntKind.i64.wrap ((k.length : Int) + 1) = (k.length : Int) + 1 := IntWalk.i64_in _ (by omega)
  have e2 : (0 : Int) ≤ (k.length : Int) := by omega
  have e2' : (0 : Int) ≤ (k.length : Int) + 1 := by omega
  have e3 : (k.length : Int) ≤ (kc : Int) := by omega
  have e4 : ((k.length : Int) + 1).toNat = k.length + 1 := by omega
  have q0 : ¬ ((k.length : Int) + 2 < 2) := by omega
  clear hv hc hl
  have HC : Hid (∀ n, CxV D cb ((w.drewN n).setCell ⟨cb, 2, none⟩ (.slice (some ⟨g, 0, none⟩) k.length kc)) k ps p bb bv bl off rd (.slice (some ⟨g, 0, none⟩) k.length kc) qv qs) := fun n => Hv.out.cutL ((Fr.refl _ _).drewN _) (by simp)
  go_enter Try.func100, Try.ntmps100
  go_wp2_with fail
  go_quiet (fail)
  go_wp2_with fail
  go_quiet (fail)
  go_wp2_with fail
  go_region_law (fail)
  all_goals
    go_wp2_with (first | (go_at_call 125; refine (bool2int_any _ _).mono ?_; rintro e w' ⟨rfl, rfl⟩) | (at_builtin; go_must (refine wpList_app4 sliceI64 _ rfl _ _ rfl D.W.heap.size _ k.length (vis k) rfl ((HC.out _).ow ((Fr.refl [] _).alloc _)) (some ⟨w.heap.size, 0, none⟩) 1 1 [_] rfl rfl (fun h => by cases h) (news_one (by simp [World.setCell]) _ _) (by simp [Value.oneCell']) (by omega) (by decide) (by simp [World.setCell]; omega) ?_); intro a8 c8' w8 ho8 hf8 hg8 ht8; have HP := Lib.hid ((HC.out _).pushed ((Fr.refl [] _).alloc _) hf8 ht8 ho8); have hb8 := (HC.out _).app ((Fr.refl [] _).alloc _) ht8; have s2 : w8.cell? ⟨cb, 2, none⟩ = some (.slice (some ⟨g, 0, none⟩) k.length kc) := blk_cell hb8 2; have z2 : w8.frozen? ⟨cb, 2, none⟩ = false := blk_free hb8 2; clear ho8 hf8 hg8 ht8 hb8))
    go_ret
    exact ⟨rfl, HP.out⟩

set_option maxRecDepth 100000 in
set_option maxHeartbeats 4000000 in
theorem obin_42 (D : CxD) (cb : Nat) (w : World) (k : List Int) (a b : Int) (ps : List LPiece) (p : Nat) (h : CxR D cb w (k ++ [a, b]) ps p) (hk : k.length ≤ 1000000) :
    Calls Try.prog 100 #[.int .u8 42, .pointer (some ⟨cb, 0, none⟩)] w (OkP D cb (k ++ [truthI (decide (b ≤ a))]) ps p) := by
  obtain ⟨bb, bv, bl, off, rd, kv, qv, qs, hv⟩ := h
  have hl : (k ++ [a, b]).length = k.length + 2 := by simp
  obtain ⟨g, kc, rfl, hk1, hk2, hc⟩ := own_vis hv.own (by omega)
  have c2 : w.cell? ⟨cb, 2, none⟩ = some (.slice (some ⟨g, 0, none⟩) (k.length + 2) kc) := by have := hv.cell 2; rw [hl] at this; exact this
  have f2 := hv.free 2
  have cx : w.cell? ⟨g, k.length + 1, none⟩ = some (vi b) := by rw [hc (k.length + 1) (by omega)]; simp
  have cy : w.cell? ⟨g, k.length, none⟩ = some (vi a) := by rw [hc k.length (by omega)]; simp
  rw [hl] at hv
  have Hv := Lib.hid hv
  have SZ := hv.fr.size
  unfold maxLen at hk2
  rw [hl] at hk1
  have e1 : IntKind.i64.wrap (k.length : Int) = (k.length : Int) := IntWalk.i64_in _ (by omega)
  have e1' : IntKind.i64.wrap ((k.length : Int) + 1) = (k.length : Int) + 1 := IntWalk.i64_in _ (by omega)
  have e2 : (0 : Int) ≤ (k.length : Int) := by omega
  have e2' : (0 : Int) ≤ (k.length : Int) + 1 := by omega
  have e3 : (k.length : Int) ≤ (kc : Int) := by omega
  have e4 : ((k.length : Int) + 1).toNat = k.length + 1 := by omega
  have q0 : ¬ ((k.length : Int) + 2 < 2) := by omega
  clear hv hc hl
  have HC : Hid (∀ n, CxV D cb ((w.drewN n).setCell ⟨cb, 2, none⟩ (.slice (some ⟨g, 0, none⟩) k.length kc)) k ps p bb bv bl off rd (.slice (some ⟨g, 0, none⟩) k.length kc) qv qs) := fun n => Hv.out.cutL ((Fr.refl _ _).drewN _) (by simp)
  go_enter Try.func100, Try.ntmps100
  go_wp2_with fail
  go_quiet (fail)
  go_wp2_with fail
  go_quiet (fail)
  go_wp2_with fail
  go_region_law (fail)
  all_goals
    go_wp2_with (first | (go_at_call 125; refine (bool2int_any _ _).mono ?_; rintro e w' ⟨rfl, rfl⟩) | (at_builtin; go_must (refine wpList_app4 sliceI64 _ rfl _ _ rfl D.W.heap.size _ k.length (vis k) rfl ((HC.out _).ow ((Fr.refl [] _).alloc _)) (some ⟨w.heap.size, 0, none⟩) 1 1 [_] rfl rfl (fun h => by cases h) (news_one (by simp [World.setCell]) _ _) (by simp [Value.oneCell']) (by omega) (by decide) (by simp [World.setCell]; omega) ?_); intro a8 c8' w8 ho8 hf8 hg8 ht8; have HP := Lib.hid ((HC.out _).pushed ((Fr.refl [] _).alloc _) hf8 ht8 ho8); have hb8 := (HC.out _).app ((Fr.refl [] _).alloc _) ht8; have s2 : w8.cell? ⟨cb, 2, none⟩ = some (.slice (some ⟨g, 0, none⟩) k.length kc) := blk_cell hb8 2; have z2 : w8.frozen? ⟨cb, 2, none⟩ = false := blk_free hb8 2; clear ho8 hf8 hg8 ht8 hb8))
    go_ret
    exact ⟨rfl, HP.out⟩

set_option maxRecDepth 100000 in
set_option maxHeartbeats 4000000 in
theorem obin_43 (D : CxD) (cb : Nat) (w : World) (k : List Int) (a b : Int) (ps : List LPiece) (p : Nat) (h : CxR D cb w (k ++ [a, b]) ps p) (hk : k.length ≤ 1000000) :
    Calls Try.prog 100 #[.int .u8 43, .pointer (some ⟨cb, 0, none⟩)] w (OkP D cb (k ++ [truthI (decide (b < a))]) ps p) := by
  obtain ⟨bb, bv, bl, off, rd, kv, qv, qs, hv⟩ := h
  have hl : (k ++ [a, b]).length = k.length + 2 := by simp
  obtain ⟨g, kc, rfl, hk1, hk2, hc⟩ := own_vis hv.own (by omega)
  have c2 : w.cell? ⟨cb, 2, none⟩ = some (.slice (some ⟨g, 0, none⟩) (k.length + 2) kc) := by have := hv.cell 2; rw [hl] at this; exact this
  have f2 := hv.free 2
  have cx : w.cell? ⟨g, k.length + 1, none⟩ = some (vi b) := by rw [hc (k.length + 1) (by omega)]; simp
  have cy : w.cell? ⟨g, k.length, none⟩ = some (vi a) := by rw [hc k.length (by omega)]; simp
  rw [hl] at hv
  have Hv := Lib.hid hv
  have SZ := hv.fr.size
  unfold maxLen at hk2
  rw [hl] at hk1
  have e1 : IntKind.i64.wrap (k.length : Int) = (k.length : Int) := IntWalk.i64_in _ (by omega)
  have e1' : IntKind.i64.wrap ((k.length : Int) + 1) = (k.length : Int) + 1 := IntWalk.i64_in _ (by omega)
  have e2 : (0 : Int) ≤ (k.length : Int) := by omega
  have e2' : (0 : Int) ≤ (k.length : Int) + 1 := by omega
  have e3 : (k.length : Int) ≤ (kc : Int) := by omega
  have e4 : ((k.length : Int) + 1).toNat = k.length + 1 := by omega
  have q0 : ¬ ((k.length : Int) + 2 < 2) := by omega
  clear hv hc hl
  have HC : Hid (∀ n, CxV D cb ((w.drewN n).setCell ⟨cb, 2, none⟩ (.slice (some ⟨g, 0, none⟩) k.length kc)) k ps p bb bv bl off rd (.slice (some ⟨g, 0, none⟩) k.length kc) qv qs) := fun n => Hv.out.cutL ((Fr.refl _ _).drewN _) (by simp)
  go_enter Try.func100, Try.ntmps100
  go_wp2_with fail
  go_quiet (fail)
  go_wp2_with fail
  go_quiet (fail)
  go_wp2_with fail
  go_region_law (fail)
  all_goals
    go_wp2_with (first | (go_at_call 125; refine (bool2int_any _ _).mono ?_; rintro e w' ⟨rfl, rfl⟩) | (at_builtin; go_must (refine wpList_app4 sliceI64 _ rfl _ _ rfl D.W.heap.size _ k.length (vis k) rfl ((HC.out _).ow ((Fr.refl [] _).alloc _)) (some ⟨w.heap.size, 0, none⟩) 1 1 [_] rfl rfl (fun h => by cases h) (news_one (by simp [World.setCell]) _ _) (by simp [Value.oneCell']) (by omega) (by decide) (by simp [World.setCell]; omega) ?_); intro a8 c8' w8 ho8 hf8 hg8 ht8; have HP := Lib.hid ((HC.out _).pushed ((Fr.refl [] _).alloc _) hf8 ht8 ho8); have hb8 := (HC.out _).app ((Fr.refl [] _).alloc _) ht8; have s2 : w8.cell? ⟨cb, 2, none⟩ = some (.slice (some ⟨g, 0, none⟩) k.length kc) := blk_cell hb8 2; have z2 : w8.frozen? ⟨cb, 2, none⟩ = false := blk_free hb8 2; clear ho8 hf8 hg8 ht8 hb8))
    go_ret
    exact ⟨rfl, HP.out⟩

set_option maxRecDepth 100000 in
set_option maxHeartbeats 4000000 in
theorem obin_44 (D : CxD) (cb : Nat) (w : World) (k : List Int) (a b : Int) (ps : List LPiece) (p : Nat) (h : CxR D cb w (k ++ [a, b]) ps p) (hk : k.length ≤ 1000000) :
    Calls Try.prog 100 #[.int .u8 44, .pointer (some ⟨cb, 0, none⟩)] w (OkP D cb (k ++ [truthI (decide (a ≤ b))]) ps p) := by
  obtain ⟨bb, bv, bl, off, rd, kv, qv, qs, hv⟩ := h
  have hl : (k ++ [a, b]).length = k.length + 2 := by simp
  obtain ⟨g, kc, rfl, hk1, hk2, hc⟩ := own_vis hv.own (by omega)
  have c2 : w.cell? ⟨cb, 2, none⟩ = some (.slice (some ⟨g, 0, none⟩) (k.length + 2) kc) := by have := hv.cell 2; rw [hl] at this; exact this
  have f2 := hv.free 2
  have cx : w.cell? ⟨g, k.length + 1, none⟩ = some (vi b) := by rw [hc (k.length + 1) (by omega)]; simp
  have cy : w.cell? ⟨g, k.length, none⟩ = some (vi a) := by rw [hc k.length (by omega)]; simp
  rw [hl] at hv
  have Hv := Lib.hid hv
  have SZ := hv.fr.size
  unfold maxLen at hk2
  rw [hl] at hk1
  have e1 : IntKind.i64.wrap (k.length : Int) = (k.length : Int) := IntWalk.i64_in _ (by omega)
  have e1' : IntKind.i64.wrap ((k.length : Int) + 1) = (k.length : Int) + 1 := IntWalk.i64_in _ (by omega)
  have e2 : (0 : Int) ≤ (k.length : Int) := by omega
  have e2' : (0 : Int) ≤ (k.length : Int) + 1 := by omega
  have e3 : (k.length : Int) ≤ (kc : Int) := by omega
  have e4 : ((k.length : Int) + 1).toNat = k.length + 1 := by omega
  have q0 : ¬ ((k.length : Int) + 2 < 2) := by omega
  clear hv hc hl
  have HC : Hid (∀ n, CxV D cb ((w.drewN n).setCell ⟨cb, 2, none⟩ (.slice (some ⟨g, 0, none⟩) k.length kc)) k ps p bb bv bl off rd (.slice (some ⟨g, 0, none⟩) k.length kc) qv qs) := fun n => Hv.out.cutL ((Fr.refl _ _).drewN _) (by simp)
  go_enter Try.func100, Try.ntmps100
  go_wp2_with fail
  go_quiet (fail)
  go_wp2_with fail
  go_quiet (fail)
  go_wp2_with fail
  go_region_law (fail)
  all_goals
    go_wp2_with (first | (go_at_call 125; refine (bool2int_any _ _).mono ?_; rintro e w' ⟨rfl, rfl⟩) | (at_builtin; go_must (refine wpList_app4 sliceI64 _ rfl _ _ rfl D.W.heap.size _ k.length (vis k) rfl ((HC.out _).ow ((Fr.refl [] _).alloc _)) (some ⟨w.heap.size, 0, none⟩) 1 1 [_] rfl rfl (fun h => by cases h) (news_one (by simp [World.setCell]) _ _) (by simp [Value.oneCell']) (by omega) (by decide) (by simp [World.setCell]; omega) ?_); intro a8 c8' w8 ho8 hf8 hg8 ht8; have HP := Lib.hid ((HC.out _).pushed ((Fr.refl [] _).alloc _) hf8 ht8 ho8); have hb8 := (HC.out _).app ((Fr.refl [] _).alloc _) ht8; have s2 : w8.cell? ⟨cb, 2, none⟩ = some (.slice (some ⟨g, 0, none⟩) k.length kc) := blk_cell hb8 2; have z2 : w8.frozen? ⟨cb, 2, none⟩ = false := blk_free hb8 2; clear ho8 hf8 hg8 ht8 hb8))
    go_ret
    exact ⟨rfl, HP.out⟩

set_option maxRecDepth 100000 in
set_option maxHeartbeats 4000000 in
theorem obin_45 (D : CxD) (cb : Nat) (w : World) (k : List Int) (a b : Int) (ps : List LPiece) (p : Nat) (h : CxR D cb w (k ++ [a, b]) ps p) (hk : k.length ≤ 1000000) :
    Calls Try.prog 100 #[.int .u8 45, .pointer (some ⟨cb, 0, none⟩)] w (OkP D cb (k ++ [truthI (decide (a < b))]) ps p) := by
  obtain ⟨bb, bv, bl, off, rd, kv, qv, qs, hv⟩ := h
  have hl : (k ++ [a, b]).length = k.length + 2 := by simp
  obtain ⟨g, kc, rfl, hk1, hk2, hc⟩ := own_vis hv.own (by omega)
  have c2 : w.cell? ⟨cb, 2, none⟩ = some (.slice (some ⟨g, 0, none⟩) (k.length + 2) kc) := by have := hv.cell 2; rw [hl] at this; exact this
  have f2 := hv.free 2
  have cx : w.cell? ⟨g, k.length + 1, none⟩ = some (vi b) := by rw [hc (k.length + 1) (by omega)]; simp
  have cy : w.cell? ⟨g, k.length, none⟩ = some (vi a) := by rw [hc k.length (by omega)]; simp
  rw [hl] at hv
  have Hv := Lib.hid hv
  have SZ := hv.fr.size
  unfold maxLen at hk2
  rw [hl] at hk1
  have e1 : IntKind.i64.wrap (k.length : Int) = (k.length : Int) := IntWalk.i64_in _ (by omega)
  have e1' : IntKind.i64.wrap ((k.length : Int) + 1) = (k.length : Int) + 1 := IntWalk.i64_in _ (by omega)
  have e2 : (0 : Int) ≤ (k.length : Int) := by omega
  have e2' : (0 : Int) ≤ (k.length : Int) + 1 := by omega
  have e3 : (k.length : Int) ≤ (kc : Int) := by omega
  have e4 : ((k.length : Int) + 1).toNat = k.length + 1 := by omega
  have q0 : ¬ ((k.length : Int) + 2 < 2) := by omega
  clear hv hc hl
  have HC : Hid (∀ n, CxV D cb ((w.drewN n).setCell ⟨cb, 2, none⟩ (.slice (some ⟨g, 0, none⟩) k.length kc)) k ps p bb bv bl off rd (.slice (some ⟨g, 0, none⟩) k.length kc) qv qs) := fun n => Hv.out.cutL ((Fr.refl _ _).drewN _) (by simp)
  go_enter Try.func100, Try.ntmps100
  go_wp2_with fail
  go_quiet (fail)
  go_wp2_with fail
  go_quiet (fail)
  go_wp2_with fail
  go_region_law (fail)
  all_goals
    go_wp2_with (first | (go_at_call 125; refine (bool2int_any _ _).mono ?_; rintro e w' ⟨rfl, rfl⟩) | (at_builtin; go_must (refine wpList_app4 sliceI64 _ rfl _ _ rfl D.W.heap.size _ k.length (vis k) rfl ((HC.out _).ow ((Fr.refl [] _).alloc _)) (some ⟨w.heap.size, 0, none⟩) 1 1 [_] rfl rfl (fun h => by cases h) (news_one (by simp [World.setCell]) _ _) (by simp [Value.oneCell']) (by omega) (by decide) (by simp [World.setCell]; omega) ?_); intro a8 c8' w8 ho8 hf8 hg8 ht8; have HP := Lib.hid ((HC.out _).pushed ((Fr.refl [] _).alloc _) hf8 ht8 ho8); have hb8 := (HC.out _).app ((Fr.refl [] _).alloc _) ht8; have s2 : w8.cell? ⟨cb, 2, none⟩ = some (.slice (some ⟨g, 0, none⟩) k.length kc) := blk_cell hb8 2; have z2 : w8.frozen? ⟨cb, 2, none⟩ = false := blk_free hb8 2; clear ho8 hf8 hg8 ht8 hb8))
    go_ret
    exact ⟨rfl, HP.out⟩

set_option maxRecDepth 100000 in
set_option maxHeartbeats 4000000 in
theorem obin_27 (D : CxD) (cb : Nat) (w : World) (k : List Int) (a b : Int) (ps : List LPiece) (p : Nat) (h : CxR D cb w (k ++ [a, b]) ps p) (hk : k.length ≤ 1000000) (hb : ¬ b = 0) :
    Calls Try.prog 100 #[.int .u8 27, .pointer (some ⟨cb, 0, none⟩)] w (OkP D cb (k ++ [wrap64 (a.tdiv b)]) ps p) := by
  obtain ⟨bb, bv, bl, off, rd, kv, qv, qs, hv⟩ := h
  have hl : (k ++ [a, b]).length = k.length + 2 := by simp
  obtain ⟨g, kc, rfl, hk1, hk2, hc⟩ := own_vis hv.own (by omega)
  have c2 : w.cell? ⟨cb, 2, none⟩ = some (.slice (some ⟨g, 0, none⟩) (k.length + 2) kc) := by have := hv.cell 2; rw [hl] at this; exact this
  have f2 := hv.free 2
  have cx : w.cell? ⟨g, k.length + 1, none⟩ = some (vi b) := by rw [hc (k.length + 1) (by omega)]; simp
  have cy : w.cell? ⟨g, k.length, none⟩ = some (vi a) := by rw [hc k.length (by omega)]; simp
  rw [hl] at hv
  have Hv := Lib.hid hv
  have SZ := hv.fr.size
  unfold maxLen at hk2
  rw [hl] at hk1
  have e1 : IntKind.i64.wrap (k.length : Int) = (k.length : Int) := IntWalk.i64_in _ (by omega)
  have e1' : IntKind.i64.wrap ((k.length : Int) + 1) = (k.length : Int) + 1 := IntWalk.i64_in _ (by omega)
  have e2 : (0 : Int) ≤ (k.length : Int) := by omega
  have e2' : (0 : Int) ≤ (k.length : Int) + 1 := by omega
  have e3 : (k.length : Int) ≤ (kc : Int) := by omega
  have e4 : ((k.length : Int) + 1).toNat = k.length + 1 := by omega
  have q0 : ¬ ((k.length : Int) + 2 < 2) := by omega
  clear hv hc hl
  have HC : Hid (∀ n, CxV D cb ((w.drewN n).setCell ⟨cb, 2, none⟩ (.slice (some ⟨g, 0, none⟩) k.length kc)) k ps p bb bv bl off rd (.slice (some ⟨g, 0, none⟩) k.length kc) qv qs) := fun n => Hv.out.cutL ((Fr.refl _ _).drewN _) (by simp)
  go_enter Try.func100, Try.ntmps100
  go_wp2_with fail
  go_quiet (fail)
  go_wp2_with fail
  go_quiet (fail)
  go_wp2_with fail
  go_region_law (fail)
  all_goals
    go_wp2_with (at_builtin; go_must (refine wpList_app4 sliceI64 _ rfl _ _ rfl D.W.heap.size _ k.length (vis k) rfl ((HC.out _).ow ((Fr.refl [] _).alloc _)) (some ⟨w.heap.size, 0, none⟩) 1 1 [_] rfl rfl (fun h => by cases h) (news_one (by simp [World.setCell]) _ _) (by simp [Value.oneCell']) (by omega) (by decide) (by simp [World.setCell]; omega) ?_); intro a8 c8' w8 ho8 hf8 hg8 ht8; have HP := Lib.hid ((HC.out _).pushed ((Fr.refl [] _).alloc _) hf8 ht8 ho8); have hb8 := (HC.out _).app ((Fr.refl [] _).alloc _) ht8; have s2 : w8.cell? ⟨cb, 2, none⟩ = some (.slice (some ⟨g, 0, none⟩) k.length kc) := blk_cell hb8 2; have z2 : w8.frozen? ⟨cb, 2, none⟩ = false := blk_free hb8 2; clear ho8 hf8 hg8 ht8 hb8)
    go_ret
    exact ⟨rfl, HP.out⟩

set_option maxRecDepth 100000 in
set_option maxHeartbeats 4000000 in
theorem obin_29 (D : CxD) (cb : Nat) (w : World) (k : List Int) (a b : Int) (ps : List LPiece) (p : Nat) (h : CxR D cb w (k ++ [a, b]) ps p) (hk : k.length ≤ 1000000) (hb : ¬ b = 0) (ha : 0 ≤ a) (hb2 : 1 ≤ b) :
    Calls Try.prog 100 #[.int .u8 29, .pointer (some ⟨cb, 0, none⟩)] w (OkP D cb (k ++ [a % b]) ps p) := by
  obtain ⟨bb, bv, bl, off, rd, kv, qv, qs, hv⟩ := h
  have hl : (k ++ [a, b]).length = k.length + 2 := by simp
  obtain ⟨g, kc, rfl, hk1, hk2, hc⟩ := own_vis hv.own (by omega)
  have c2 : w.cell? ⟨cb, 2, none⟩ = some (.slice (some ⟨g, 0, none⟩) (k.length + 2) kc) := by have := hv.cell 2; rw [hl] at this; exact this
  have f2 := hv.free 2
  have cx : w.cell? ⟨g, k.length + 1, none⟩ = some (vi b) := by rw [hc (k.length + 1) (by omega)]; simp
  have cy : w.cell? ⟨g, k.length, none⟩ = some (vi a) := by rw [hc k.length (by omega)]; simp
  rw [hl] at hv
  have Hv := Lib.hid hv
  have SZ := hv.fr.size
  unfold maxLen at hk2
  rw [hl] at hk1
  have e1 : IntKind.i64.wrap (k.length : Int) = (k.length : Int) := IntWalk.i64_in _ (by omega)
  have e1' : IntKind.i64.wrap ((k.length : Int) + 1) = (k.length : Int) + 1 := IntWalk.i64_in _ (by omega)
  have e2 : (0 : Int) ≤ (k.length : Int) := by omega
  have e2' : (0 : Int) ≤ (k.length : Int) + 1 := by omega
  have e3 : (k.length : Int) ≤ (kc : Int) := by omega
  have e4 : ((k.length : Int) + 1).toNat = k.length + 1 := by omega
  have q0 : ¬ ((k.length : Int) + 2 < 2) := by omega
  clear hv hc hl
  have HC : Hid (∀ n, CxV D cb ((w.drewN n).setCell ⟨cb, 2, none⟩ (.slice (some ⟨g, 0, none⟩) k.length kc)) k ps p bb bv bl off rd (.slice (some ⟨g, 0, none⟩) k.length kc) qv qs) := fun n => Hv.out.cutL ((Fr.refl _ _).drewN _) (by simp)
  go_enter Try.func100, Try.ntmps100
  go_wp2_with fail
  go_quiet (fail)
  go_wp2_with fail
  go_quiet (fail)
  go_wp2_with fail
  go_region_law (fail)
  all_goals
    go_wp2_with (at_builtin; go_must (refine wpList_app4 sliceI64 _ rfl _ _ rfl D.W.heap.size _ k.length (vis k) rfl ((HC.out _).ow ((Fr.refl [] _).alloc _)) (some ⟨w.heap.size, 0, none⟩) 1 1 [_] rfl rfl (fun h => by cases h) (news_one (by simp [World.setCell]) _ _) (by simp [Value.oneCell']) (by omega) (by decide) (by simp [World.setCell]; omega) ?_); intro a8 c8' w8 ho8 hf8 hg8 ht8; have HP := Lib.hid ((HC.out _).pushed ((Fr.refl [] _).alloc _) hf8 ht8 ho8); have hb8 := (HC.out _).app ((Fr.refl [] _).alloc _) ht8; have s2 : w8.cell? ⟨cb, 2, none⟩ = some (.slice (some ⟨g, 0, none⟩) k.length kc) := blk_cell hb8 2; have z2 : w8.frozen? ⟨cb, 2, none⟩ = false := blk_free hb8 2; clear ho8 hf8 hg8 ht8 hb8)
    go_ret
    exact ⟨rfl, HP.out⟩

set_option maxRecDepth 100000 in
set_option maxHeartbeats 4000000 in
theorem obin_36 (D : CxD) (cb : Nat) (w : World) (k : List Int) (a : Int) (ps : List LPiece) (p : Nat) (j : Nat) (h : CxR D cb w (k ++ [a, (j : Int)]) ps p) (hk : k.length ≤ 1000000) (hj : j ≤ 63) :
    Calls Try.prog 100 #[.int .u8 36, .pointer (some ⟨cb, 0, none⟩)] w (OkP D cb (k ++ [wrap64 (a * 2 ^ j)]) ps p) := by
  obtain ⟨bb, bv, bl, off, rd, kv, qv, qs, hv⟩ := h
  have hl : (k ++ [a, (j : Int)]).length = k.length + 2 := by simp
  obtain ⟨g, kc, rfl, hk1, hk2, hc⟩ := own_vis hv.own (by omega)
  have c2 : w.cell? ⟨cb, 2, none⟩ = some (.slice (some ⟨g, 0, none⟩) (k.length + 2) kc) := by have := hv.cell 2; rw [hl] at this; exact this
  have f2 := hv.free 2
  have cx : w.cell? ⟨g, k.length + 1, none⟩ = some (vi j) := by rw [hc (k.length + 1) (by omega)]; simp
  have cy : w.cell? ⟨g, k.length, none⟩ = some (vi a) := by rw [hc k.length (by omega)]; simp
  rw [hl] at hv
  have Hv := Lib.hid hv
  have SZ := hv.fr.size
  unfold maxLen at hk2
  rw [hl] at hk1
  have e1 : IntKind.i64.wrap (k.length : Int) = (k.length : Int) := IntWalk.i64_in _ (by omega)
  have e1' : IntKind.i64.wrap ((k.length : Int) + 1) = (k.length : Int) + 1 := IntWalk.i64_in _ (by omega)
  have e2 : (0 : Int) ≤ (k.length : Int) := by omega
  have e2' : (0 : Int) ≤ (k.length : Int) + 1 := by omega
  have e3 : (k.length : Int) ≤ (kc : Int) := by omega
  have e4 : ((k.length : Int) + 1).toNat = k.length + 1 := by omega
  have q0 : ¬ ((k.length : Int) + 2 < 2) := by omega
  clear hv hc hl
  have ej : IntKind.u64.wrap (j : Int) = (j : Int) := IntWalk.u64_in _ (by omega)
  have HC : Hid (∀ n, CxV D cb ((w.drewN n).setCell ⟨cb, 2, none⟩ (.slice (some ⟨g, 0, none⟩) k.length kc)) k ps p bb bv bl off rd (.slice (some ⟨g, 0, none⟩) k.length kc) qv qs) := fun n => Hv.out.cutL ((Fr.refl _ _).drewN _) (by simp)
  go_enter Try.func100, Try.ntmps100
  go_wp2_with fail
  go_quiet (fail)
  go_wp2_with fail
  go_quiet (fail)
  go_wp2_with fail
  go_region_law (fail)
  all_goals
    go_wp2_with (at_builtin; go_must (refine wpList_app4 sliceI64 _ rfl _ _ rfl D.W.heap.size _ k.length (vis k) rfl ((HC.out _).ow ((Fr.refl [] _).alloc _)) (some ⟨w.heap.size, 0, none⟩) 1 1 [_] rfl rfl (fun h => by cases h) (news_one (by simp [World.setCell]) _ _) (by simp [Value.oneCell']) (by omega) (by decide) (by simp [World.setCell]; omega) ?_); intro a8 c8' w8 ho8 hf8 hg8 ht8; have HP := Lib.hid ((HC.out _).pushed ((Fr.refl [] _).alloc _) hf8 ht8 ho8); have hb8 := (HC.out _).app ((Fr.refl [] _).alloc _) ht8; have s2 : w8.cell? ⟨cb, 2, none⟩ = some (.slice (some ⟨g, 0, none⟩) k.length kc) := blk_cell hb8 2; have z2 : w8.frozen? ⟨cb, 2, none⟩ = false := blk_free hb8 2; clear ho8 hf8 hg8 ht8 hb8)
    go_ret
    exact ⟨rfl, HP.out⟩

set_option maxRecDepth 100000 in
set_option maxHeartbeats 4000000 in
theorem obin_37 (D : CxD) (cb : Nat) (w : World) (k : List Int) (a : Int) (ps : List LPiece) (p : Nat) (j : Nat) (h : CxR D cb w (k ++ [a, (j : Int)]) ps p) (hk : k.length ≤ 1000000) (hj : j ≤ 63) :
    Calls Try.prog 100 #[.int .u8 37, .pointer (some ⟨cb, 0, none⟩)] w (OkP D cb (k ++ [wrap64 (IntKind.u64.wrap a / 2 ^ j)]) ps p) := by
  obtain ⟨bb, bv, bl, off, rd, kv, qv, qs, hv⟩ := h
  have hl : (k ++ [a, (j : Int)]).length = k.length + 2 := by simp
  obtain ⟨g, kc, rfl, hk1, hk2, hc⟩ := own_vis hv.own (by omega)
  have c2 : w.cell? ⟨cb, 2, none⟩ = some (.slice (some ⟨g, 0, none⟩) (k.length + 2) kc) := by have := hv.cell 2; rw [hl] at this; exact this
  have f2 := hv.free 2
  have cx : w.cell? ⟨g, k.length + 1, none⟩ = some (vi j) := by rw [hc (k.length + 1) (by omega)]; simp
  have cy : w.cell? ⟨g, k.length, none⟩ = some (vi a) := by rw [hc k.length (by omega)]; simp
  rw [hl] at hv
  have Hv := Lib.hid hv
  have SZ := hv.fr.size
  unfold maxLen at hk2
  rw [hl] at hk1
  have e1 : IntKind.i64.wrap (k.length : Int) = (k.length : Int) := IntWalk.i64_in _ (by omega)
  have e1' : IntKind.i64.wrap ((k.length : Int) + 1) = (k.length : Int) + 1 := IntWalk.i64_in _ (by omega)
  have e2 : (0 : Int) ≤ (k.length : Int) := by omega
  have e2' : (0 : Int) ≤ (k.length : Int) + 1 := by omega
  have e3 : (k.length : Int) ≤ (kc : Int) := by omega
  have e4 : ((k.length : Int) + 1).toNat = k.length + 1 := by omega
  have q0 : ¬ ((k.length : Int) + 2 < 2) := by omega
  clear hv hc hl
  have ej : IntKind.u64.wrap (j : Int) = (j : Int) := IntWalk.u64_in _ (by omega)
  have HC : Hid (∀ n, CxV D cb ((w.drewN n).setCell ⟨cb, 2, none⟩ (.slice (some ⟨g, 0, none⟩) k.length kc)) k ps p bb bv bl off rd (.slice (some ⟨g, 0, none⟩) k.length kc) qv qs) := fun n => Hv.out.cutL ((Fr.refl _ _).drewN _) (by simp)
  go_enter Try.func100, Try.ntmps100
  go_wp2_with fail
  go_quiet (fail)
  go_wp2_with fail
  go_quiet (fail)
  go_wp2_with fail
  go_region_law (fail)
  all_goals
    go_wp2_with (at_builtin; go_must (refine wpList_app4 sliceI64 _ rfl _ _ rfl D.W.heap.size _ k.length (vis k) rfl ((HC.out _).ow ((Fr.refl [] _).alloc _)) (some ⟨w.heap.size, 0, none⟩) 1 1 [_] rfl rfl (fun h => by cases h) (news_one (by simp [World.setCell]) _ _) (by simp [Value.oneCell']) (by omega) (by decide) (by simp [World.setCell]; omega) ?_); intro a8 c8' w8 ho8 hf8 hg8 ht8; have HP := Lib.hid ((HC.out _).pushed ((Fr.refl [] _).alloc _) hf8 ht8 ho8); have hb8 := (HC.out _).app ((Fr.refl [] _).alloc _) ht8; have s2 : w8.cell? ⟨cb, 2, none⟩ = some (.slice (some ⟨g, 0, none⟩) k.length kc) := blk_cell hb8 2; have z2 : w8.frozen? ⟨cb, 2, none⟩ = false := blk_free hb8 2; clear ho8 hf8 hg8 ht8 hb8)
    go_ret
    exact ⟨rfl, HP.out⟩

set_option maxRecDepth 100000 in
set_option maxHeartbeats 4000000 in
theorem obin_38 (D : CxD) (cb : Nat) (w : World) (k : List Int) (a : Int) (ps : List LPiece) (p : Nat) (j : Nat) (h : CxR D cb w (k ++ [a, (j : Int)]) ps p) (hk : k.length ≤ 1000000) (hj : j ≤ 63) :
    Calls Try.prog 100 #[.int .u8 38, .pointer (some ⟨cb, 0, none⟩)] w (OkP D cb (k ++ [a / 2 ^ j]) ps p) := by
  obtain ⟨bb, bv, bl, off, rd, kv, qv, qs, hv⟩ := h
  have hl : (k ++ [a, (j : Int)]).length = k.length + 2 := by simp
  obtain ⟨g, kc, rfl, hk1, hk2, hc⟩ := own_vis hv.own (by omega)
  have c2 : w.cell? ⟨cb, 2, none⟩ = some (.slice (some ⟨g, 0, none⟩) (k.length + 2) kc) := by have := hv.cell 2; rw [hl] at this; exact this
  have f2 := hv.free 2
  have cx : w.cell? ⟨g, k.length + 1, none⟩ = some (vi j) := by rw [hc (k.length + 1) (by omega)]; simp
  have cy : w.cell? ⟨g, k.length, none⟩ = some (vi a) := by rw [hc k.length (by omega)]; simp
  rw [hl] at hv
  have Hv := Lib.hid hv
  have SZ := hv.fr.size
  unfold maxLen at hk2
  rw [hl] at hk1
  have e1 : IntKind.i64.wrap (k.length : Int) = (k.length : Int) := IntWalk.i64_in _ (by omega)
  have e1' : IntKind.i64.wrap ((k.length : Int) + 1) = (k.length : Int) + 1 := IntWalk.i64_in _ (by omega)
  have e2 : (0 : Int) ≤ (k.length : Int) := by omega
  have e2' : (0 : Int) ≤ (k.length : Int) + 1 := by omega
  have e3 : (k.length : Int) ≤ (kc : Int) := by omega
  have e4 : ((k.length : Int) + 1).toNat = k.length + 1 := by omega
  have q0 : ¬ ((k.length : Int) + 2 < 2) := by omega
  clear hv hc hl
  have ej : IntKind.u64.wrap (j : Int) = (j : Int) := IntWalk.u64_in _ (by omega)
  have HC : Hid (∀ n, CxV D cb ((w.drewN n).setCell ⟨cb, 2, none⟩ (.slice (some ⟨g, 0, none⟩) k.length kc)) k ps p bb bv bl off rd (.slice (some ⟨g, 0, none⟩) k.length kc) qv qs) := fun n => Hv.out.cutL ((Fr.refl _ _).drewN _) (by simp)
  go_enter Try.func100, Try.ntmps100
  go_wp2_with fail
  go_quiet (fail)
  go_wp2_with fail
  go_quiet (fail)
  go_wp2_with fail
  go_region_law (fail)
  all_goals
    go_wp2_with (at_builtin; go_must (refine wpList_app4 sliceI64 _ rfl _ _ rfl D.W.heap.size _ k.length (vis k) rfl ((HC.out _).ow ((Fr.refl [] _).alloc _)) (some ⟨w.heap.size, 0, none⟩) 1 1 [_] rfl rfl (fun h => by cases h) (news_one (by simp [World.setCell]) _ _) (by simp [Value.oneCell']) (by omega) (by decide) (by simp [World.setCell]; omega) ?_); intro a8 c8' w8 ho8 hf8 hg8 ht8; have HP := Lib.hid ((HC.out _).pushed ((Fr.refl [] _).alloc _) hf8 ht8 ho8); have hb8 := (HC.out _).app ((Fr.refl [] _).alloc _) ht8; have s2 : w8.cell? ⟨cb, 2, none⟩ = some (.slice (some ⟨g, 0, none⟩) k.length kc) := blk_cell hb8 2; have z2 : w8.frozen? ⟨cb, 2, none⟩ = false := blk_free hb8 2; clear ho8 hf8 hg8 ht8 hb8)
    go_ret
    exact ⟨rfl, HP.out⟩

set_option maxRecDepth 100000 in
set_option maxHeartbeats 4000000 in
theorem obin_27z (D : CxD) (cb : Nat) (w : World) (k : List Int) (a : Int) (ps : List LPiece) (p : Nat) (h : CxR D cb w (k ++ [a, 0]) ps p) :
    Calls Try.prog 100 #[.int .u8 27, .pointer (some ⟨cb, 0, none⟩)] w (ErrP D) := by
  obtain ⟨bb, bv, bl, off, rd, kv, qv, qs, hv⟩ := h
  have hl : (k ++ [a, 0]).length = k.length + 2 := by simp
  obtain ⟨g, kc, rfl, hk1, hk2, hc⟩ := own_vis hv.own (by omega)
  have c2 : w.cell? ⟨cb, 2, none⟩ = some (.slice (some ⟨g, 0, none⟩) (k.length + 2) kc) := by have := hv.cell 2; rw [hl] at this; exact this
  have f2 := hv.free 2
  have cx : w.cell? ⟨g, k.length + 1, none⟩ = some (vi 0) := by rw [hc (k.length + 1) (by omega)]; simp
  have cy : w.cell? ⟨g, k.length, none⟩ = some (vi a) := by rw [hc k.length (by omega)]; simp
  rw [hl] at hv
  have Hv := Lib.hid hv
  have SZ := hv.fr.size
  unfold maxLen at hk2
  rw [hl] at hk1
  have e1 : IntKind.i64.wrap (k.length : Int) = (k.length : Int) := IntWalk.i64_in _ (by omega)
  have e1' : IntKind.i64.wrap ((k.length : Int) + 1) = (k.length : Int) + 1 := IntWalk.i64_in _ (by omega)
  have e2 : (0 : Int) ≤ (k.length : Int) := by omega
  have e2' : (0 : Int) ≤ (k.length : Int) + 1 := by omega
  have e3 : (k.length : Int) ≤ (kc : Int) := by omega
  have e4 : ((k.length : Int) + 1).toNat = k.length + 1 := by omega
  have q0 : ¬ ((k.length : Int) + 2 < 2) := by omega
  clear hv hc hl
  have HC : Hid (∀ n, Fr [] D.W ((w.drewN n).setCell ⟨cb, 2, none⟩ (.slice (some ⟨g, 0, none⟩) k.length kc))) := fun n => (Hv.out.fr.drewN _).setCell (.inr Hv.out.ge) _
  go_enter Try.func100, Try.ntmps100
  go_wp2_with fail
  go_quiet (fail)
  go_wp2_with fail
  go_quiet (fail)
  go_wp2_with fail
  go_region_law (fail)
  all_goals
    go_wp2_with fail
    exact ⟨rfl, .inr ⟨_, _, rfl⟩, HC.out _⟩

set_option maxRecDepth 100000 in
set_option maxHeartbeats 4000000 in
theorem obin_29z (D : CxD) (cb : Nat) (w : World) (k : List Int) (a : Int) (ps : List LPiece) (p : Nat) (h : CxR D cb w (k ++ [a, 0]) ps p) :
    Calls Try.prog 100 #[.int .u8 29, .pointer (some ⟨cb, 0, none⟩)] w (ErrP D) := by
  obtain ⟨bb, bv, bl, off, rd, kv, qv, qs, hv⟩ := h
  have hl : (k ++ [a, 0]).length = k.length + 2 := by simp
  obtain ⟨g, kc, rfl, hk1, hk2, hc⟩ := own_vis hv.own (by omega)
  have c2 : w.cell? ⟨cb, 2, none⟩ = some (.slice (some ⟨g, 0, none⟩) (k.length + 2) kc) := by have := hv.cell 2; rw [hl] at this; exact this
  have f2 := hv.free 2
  have cx : w.cell? ⟨g, k.length + 1, none⟩ = some (vi 0) := by rw [hc (k.length + 1) (by omega)]; simp
  have cy : w.cell? ⟨g, k.length, none⟩ = some (vi a) := by rw [hc k.length (by omega)]; simp
  rw [hl] at hv
  have Hv := Lib.hid hv
  have SZ := hv.fr.size
  unfold maxLen at hk2
  rw [hl] at hk1
  have e1 : IntKind.i64.wrap (k.length : Int) = (k.length : Int) := IntWalk.i64_in _ (by omega)
  have e1' : IntKind.i64.wrap ((k.length : Int) + 1) = (k.length : Int) + 1 := IntWalk.i64_in _ (by omega)
  have e2 : (0 : Int) ≤ (k.length : Int) := by omega
  have e2' : (0 : Int) ≤ (k.length : Int) + 1 := by omega
  have e3 : (k.length : Int) ≤ (kc : Int) := by omega
  have e4 : ((k.length : Int) + 1).toNat = k.length + 1 := by omega
  have q0 : ¬ ((k.length : Int) + 2 < 2) := by omega
  clear hv hc hl
  have HC : Hid (∀ n, Fr [] D.W ((w.drewN n).setCell ⟨cb, 2, none⟩ (.slice (some ⟨g, 0, none⟩) k.length kc))) := fun n => (Hv.out.fr.drewN _).setCell (.inr Hv.out.ge) _
  go_enter Try.func100, Try.ntmps100
  go_wp2_with fail
  go_quiet (fail)
  go_wp2_with fail
  go_quiet (fail)
  go_wp2_with fail
  go_region_law (fail)
  all_goals
    go_wp2_with fail
    exact ⟨rfl, .inr ⟨_, _, rfl⟩, HC.out _⟩

theorem obin_err (op : Nat) (D : CxD) (cb : Nat) (w : World) (k : List Int) (ps : List LPiece) (p : Nat) (h : CxR D cb w k ps p) (hk : k.length < 2) :
    Calls Try.prog 100 #[.int .u8 (op : Int), .pointer (some ⟨cb, 0, none⟩)] w (ErrP D) := by
  obtain ⟨bb, bv, bl, off, rd, kv, qv, qs, hv⟩ := h
  obtain ⟨ka, kc, rfl⟩ := own_slice hv.own
  have c2 : w.cell? ⟨cb, 2, none⟩ = some (.slice ka k.length kc) := hv.cell 2
  have f2 := hv.free 2
  have Hv := Lib.hid hv
  have SZ := hv.fr.size
  clear hv
  go_enter Try.func100, Try.ntmps100
  go_wp2_with fail
  go_ret
  exact ⟨.inl ⟨_, _, rfl⟩, Hv.out.fr⟩
end Go.Proofs.Ytahohmdfllgedaa
