/- laws.FnEvaluate: it returns true, if every operation's contract holds. Printed by gen_efn.py. -/
import Derived.Test.YtahohmdfllgedaaCa13
import Derived.Test.YtahohmdfllgedaaCa15
import Derived.Test.YtahohmdfllgedaaCa17
set_option linter.unusedVariables false
set_option linter.unusedSimpArgs false
namespace Go.Proofs.Ytahohmdfllgedaa
open Go.RowKit

theorem box_at {w w' : World} {rv mv : Value} {x : LWorld} (f : Fr [] (w.alloc (.cells #[rv, vi x.base, vi x.cfa, .int .u64 (x.at_ : Int), mv] 52)) w') :
    w'.cell? ⟨w.heap.size, 0, none⟩ = some rv ∧ w'.cell? ⟨w.heap.size, 1, none⟩ = some (vi x.base) ∧ w'.cell? ⟨w.heap.size, 2, none⟩ = some (vi x.cfa) ∧ w'.cell? ⟨w.heap.size, 3, none⟩ = some (.int .u64 (x.at_ : Int)) ∧ w'.cell? ⟨w.heap.size, 4, none⟩ = some mv := by
  have h := f.get (blk_new w _) (by simp)
  exact ⟨blk_cell h 0, blk_cell h 1, blk_cell h 2, blk_cell h 3, blk_cell h 4⟩
theorem exprOk_known {l : List LCall} (h : exprOk l = true) : ∀ c ∈ l, knownB c.op c.a c.data.length = true := by
  simp only [exprOk, Bool.and_eq_true, knownAll, List.all_eq_true] at h
  exact h.1
theorem jumpsFrom_all (l : List LCall) : ∀ (m : List LCall) (i : Nat), jumpsFrom l i m = true → ∀ (k : Nat) (h : k < m.length), jumpOk l (i + k) m[k] = true := by
  intro m i h k hk
  cases hj : jumpOk l (i + k) m[k] with
  | true => rfl
  | false => rw [jumpsFrom_false l m i k hk hj] at h; cases h
theorem exprOk_jump {l : List LCall} (h : exprOk l = true) (k : Nat) (hk : k < l.length) (hj : l[k].op = 40 ∨ l[k].op = 47) : 0 ≤ l[k].a ∧ l[k].a ≤ l.length ∧ -32768 ≤ jumpD l k l[k] ∧ jumpD l k l[k] < 32768 := by
  simp only [exprOk, Bool.and_eq_true] at h
  have h2 := jumpsFrom_all l l 0 h.2 k hk
  have h3 : isJump l[k].op = true := by unfold isJump; rcases hj with e | e <;> rw [e] <;> rfl
  rw [Nat.zero_add] at h2
  simp only [jumpOk, h3, Bool.not_true, Bool.false_or, Bool.and_eq_true, decide_eq_true_eq] at h2
  exact ⟨h2.1.1, h2.1.2, h2.2.1, h2.2.2⟩
theorem exprOk_jumps {l : List LCall} (h : exprOk l = true) : ∀ c ∈ l, (c.op = 40 ∨ c.op = 47) → 0 ≤ c.a ∧ c.a ≤ l.length := by
  intro c hc hj
  obtain ⟨i, hi, rfl⟩ := List.getElem_of_mem hc
  have := exprOk_jump h i hi hj
  exact ⟨this.1, this.2.1⟩
theorem rcall_i64 {W : World} {v : Value} {l : List LCall} (h : RSl 4 (RCall W) W v l) : ∀ c ∈ l, i64 c.op ∧ i64 c.a ∧ i64 c.b := by
  intro c hc
  obtain ⟨i, hi, rfl⟩ := List.getElem_of_mem hc
  obtain ⟨a, k, rfl⟩ := rsl_form h
  obtain ⟨g, o, -, -, hel⟩ := RSl.elem h (by decide) (by omega)
  obtain ⟨vs, -, ⟨cv, -, -, h1, h2, h3⟩, -⟩ := hel i hi
  exact ⟨h1, h2, h3⟩
theorem exprL_le {l : List LCall} (h : exprOk l = true) (hi : ∀ c ∈ l, i64 c.op ∧ i64 c.a ∧ i64 c.b) (hl : l.length ≤ 200) : (exprL l).length ≤ 29800 := by
  rw [exprL_len]
  have := pl_le l (fun c hc => ⟨known_len (exprOk_known h c hc), (hi c hc).2⟩) l.length
  omega
theorem RPiece.fr {W w : World} {vs : List Value} {p : LPiece} (h : RPiece W vs p) (f : Fr [] W w) : RPiece w vs p := by
  obtain ⟨bv, h1, h2⟩ := h; exact ⟨bv, h1, h2.fr f (by simp)⟩
theorem RIP.fr {W w : World} {vs : List Value} {p : LPiece} (h : RIP W vs p) (f : Fr [] W w) : RIP w vs p := by
  obtain ⟨bv, h1, h2⟩ := h; exact ⟨bv, h1, h2.imp (fun ⟨a, b, c⟩ => ⟨a, b, c.fr f (by simp)⟩) id⟩
theorem ExprPost.ok {l : List LCall} {w w' : World} {e : Ending} (h : ExprPost l w e w') (he : exprOk l = true) : ∃ a c, e = .returned (.tuple #[.slice a (exprL l).length c, .bool true]) ∧ w'.ownsRow w.heap.size 5 1 (.slice a (exprL l).length c) (exprL l).length (vbs (exprL l)) ∧ Fr [] w w' := by
  rcases h with ⟨-, h⟩ | ⟨h, -⟩
  · exact h
  · rw [he] at h; cases h
theorem ExprPost.bad {l : List LCall} {w w' : World} {e : Ending} (h : ExprPost l w e w') (he : exprOk l = false) : ∃ v, e = .returned (.tuple #[v, .bool false]) ∧ Fr [] w w' := by
  rcases h with ⟨h, -⟩ | ⟨-, h⟩
  · rw [he] at h; cases h
  · exact h

set_option maxRecDepth 100000 in
set_option maxHeartbeats 8000000 in
theorem FnE_A (v rv mv : Value) (l : List LCall) (x : LWorld) (w : World) (hl : RSl 4 (RCall w) w v l) (hx : RWorld w rv mv x) (h7 : fits3 l = false) :
    Calls Try.prog 7 #[v, worldV rv mv x] w fun e w' => e = .returned (.bool true) ∧ Fr [] w w' := by
  obtain ⟨la, lc, rfl, hl1, hl2⟩ := hl.shape
  obtain ⟨ra, rc, hrv, hrm⟩ := sl_len hx.rg
  obtain ⟨ma, mc, hmv, hmm⟩ := sl_len hx.mm
  simp only [List.length_map] at hrv hmv hrm hmm
  subst hrv hmv
  have Hl := Lib.hid hl
  have Hx := Lib.hid hx
  have HA : Hid (Fr [] w (w.alloc (.cells #[.slice ra x.regs.length rc, vi x.base, vi x.cfa, .int .u64 (x.at_ : Int), .slice ma x.mem.length mc] 52))) := (Fr.refl _ _).alloc _
  obtain ⟨c00, c01, c02, c03, c04⟩ := box_at (Fr.refl [] (w.alloc (.cells #[.slice ra x.regs.length rc, vi x.base, vi x.cfa, .int .u64 (x.at_ : Int), .slice ma x.mem.length mc] 52)))
  have H7 := Lib.hid h7
  clear h7
  clear hl hx
  go_enter Try.func7, Try.ntmps7
  go_wp2_with (go_at_call 24; go_must (refine (zzFits7_any w _ l _ Hl.out HA.out).mono ?_); rw [H7.out]; rintro e w1 ⟨rfl, hf1⟩; have F1 : Hid (Fr [] (w.alloc (.cells #[.slice ra x.regs.length rc, vi x.base, vi x.cfa, .int .u64 (x.at_ : Int), .slice ma x.mem.length mc] 52)) w1) := (Fr.refl [] (w.alloc (.cells #[.slice ra x.regs.length rc, vi x.base, vi x.cfa, .int .u64 (x.at_ : Int), .slice ma x.mem.length mc] 52))).then hf1; clear hf1; obtain ⟨c10, c11, c12, c13, c14⟩ := box_at F1.out; )
  go_wp2_with fail
  go_ret
  exact ⟨rfl, HA.out.then F1.out⟩

set_option maxRecDepth 100000 in
set_option maxHeartbeats 8000000 in
theorem FnE_B (v rv mv : Value) (l : List LCall) (x : LWorld) (w : World) (hl : RSl 4 (RCall w) w v l) (hx : RWorld w rv mv x) (h7 : fits3 l = true) (h9 : fits9 x = false) :
    Calls Try.prog 7 #[v, worldV rv mv x] w fun e w' => e = .returned (.bool true) ∧ Fr [] w w' := by
  obtain ⟨la, lc, rfl, hl1, hl2⟩ := hl.shape
  obtain ⟨ra, rc, hrv, hrm⟩ := sl_len hx.rg
  obtain ⟨ma, mc, hmv, hmm⟩ := sl_len hx.mm
  simp only [List.length_map] at hrv hmv hrm hmm
  subst hrv hmv
  have Hl := Lib.hid hl
  have Hx := Lib.hid hx
  have HA : Hid (Fr [] w (w.alloc (.cells #[.slice ra x.regs.length rc, vi x.base, vi x.cfa, .int .u64 (x.at_ : Int), .slice ma x.mem.length mc] 52))) := (Fr.refl _ _).alloc _
  obtain ⟨c00, c01, c02, c03, c04⟩ := box_at (Fr.refl [] (w.alloc (.cells #[.slice ra x.regs.length rc, vi x.base, vi x.cfa, .int .u64 (x.at_ : Int), .slice ma x.mem.length mc] 52)))
  have H7 := Lib.hid h7
  clear h7
  have H9 : Hid ((decide (x.regs.length ≤ 2147483647) && decide (x.mem.length ≤ 2147483647)) = false) := h9
  clear h9
  clear hl hx
  go_enter Try.func7, Try.ntmps7
  go_wp2_with (go_at_call 24; go_must (refine (zzFits7_any w _ l _ Hl.out HA.out).mono ?_); rw [H7.out]; rintro e w1 ⟨rfl, hf1⟩; have F1 : Hid (Fr [] (w.alloc (.cells #[.slice ra x.regs.length rc, vi x.base, vi x.cfa, .int .u64 (x.at_ : Int), .slice ma x.mem.length mc] 52)) w1) := (Fr.refl [] (w.alloc (.cells #[.slice ra x.regs.length rc, vi x.base, vi x.cfa, .int .u64 (x.at_ : Int), .slice ma x.mem.length mc] 52))).then hf1; clear hf1; obtain ⟨c10, c11, c12, c13, c14⟩ := box_at F1.out; )
  go_wp2_with (go_at_call 25; go_must (refine (zzFits9_any _ _ _ _ _ _ _ _ _ _).mono ?_); rw [H9.out]; rintro e w2 ⟨rfl, hf2⟩; have F2 : Hid (Fr [] (w.alloc (.cells #[.slice ra x.regs.length rc, vi x.base, vi x.cfa, .int .u64 (x.at_ : Int), .slice ma x.mem.length mc] 52)) w2) := F1.out.then hf2; clear hf2; obtain ⟨c20, c21, c22, c23, c24⟩ := box_at F2.out; )
  go_wp2_with fail
  go_ret
  exact ⟨rfl, HA.out.then F2.out⟩

set_option maxRecDepth 100000 in
set_option maxHeartbeats 8000000 in
theorem FnE_C (v rv mv : Value) (l : List LCall) (x : LWorld) (w : World) (hl : RSl 4 (RCall w) w v l) (hx : RWorld w rv mv x) (h7 : fits3 l = true) (h9 : fits9 x = true) (hn : 200 < l.length) :
    Calls Try.prog 7 #[v, worldV rv mv x] w fun e w' => e = .returned (.bool true) ∧ Fr [] w w' := by
  obtain ⟨la, lc, rfl, hl1, hl2⟩ := hl.shape
  obtain ⟨ra, rc, hrv, hrm⟩ := sl_len hx.rg
  obtain ⟨ma, mc, hmv, hmm⟩ := sl_len hx.mm
  simp only [List.length_map] at hrv hmv hrm hmm
  subst hrv hmv
  have Hl := Lib.hid hl
  have Hx := Lib.hid hx
  have HA : Hid (Fr [] w (w.alloc (.cells #[.slice ra x.regs.length rc, vi x.base, vi x.cfa, .int .u64 (x.at_ : Int), .slice ma x.mem.length mc] 52))) := (Fr.refl _ _).alloc _
  obtain ⟨c00, c01, c02, c03, c04⟩ := box_at (Fr.refl [] (w.alloc (.cells #[.slice ra x.regs.length rc, vi x.base, vi x.cfa, .int .u64 (x.at_ : Int), .slice ma x.mem.length mc] 52)))
  have H7 := Lib.hid h7
  clear h7
  have H9 : Hid ((decide (x.regs.length ≤ 2147483647) && decide (x.mem.length ≤ 2147483647)) = true) := h9
  clear h9
  have hn1 : (200 : Int) < (l.length : Int) := by omega
  clear hl hx
  go_enter Try.func7, Try.ntmps7
  go_wp2_with (go_at_call 24; go_must (refine (zzFits7_any w _ l _ Hl.out HA.out).mono ?_); rw [H7.out]; rintro e w1 ⟨rfl, hf1⟩; have F1 : Hid (Fr [] (w.alloc (.cells #[.slice ra x.regs.length rc, vi x.base, vi x.cfa, .int .u64 (x.at_ : Int), .slice ma x.mem.length mc] 52)) w1) := (Fr.refl [] (w.alloc (.cells #[.slice ra x.regs.length rc, vi x.base, vi x.cfa, .int .u64 (x.at_ : Int), .slice ma x.mem.length mc] 52))).then hf1; clear hf1; obtain ⟨c10, c11, c12, c13, c14⟩ := box_at F1.out; )
  go_wp2_with (go_at_call 25; go_must (refine (zzFits9_any _ _ _ _ _ _ _ _ _ _).mono ?_); rw [H9.out]; rintro e w2 ⟨rfl, hf2⟩; have F2 : Hid (Fr [] (w.alloc (.cells #[.slice ra x.regs.length rc, vi x.base, vi x.cfa, .int .u64 (x.at_ : Int), .slice ma x.mem.length mc] 52)) w2) := F1.out.then hf2; clear hf2; obtain ⟨c20, c21, c22, c23, c24⟩ := box_at F2.out; )
  go_wp2_with (go_at_call 11; go_must (refine (works_any _).mono ?_); rintro e w3 ⟨rfl, hf3⟩; have F3 : Hid (Fr [] (w.alloc (.cells #[.slice ra x.regs.length rc, vi x.base, vi x.cfa, .int .u64 (x.at_ : Int), .slice ma x.mem.length mc] 52)) w3) := F2.out.then hf3; clear hf3; )
  go_wp2_with fail
  go_ret
  exact ⟨rfl, HA.out.then F3.out⟩

set_option maxRecDepth 100000 in
set_option maxHeartbeats 8000000 in
theorem FnE_D (v rv mv : Value) (l : List LCall) (x : LWorld) (w : World) (hl : RSl 4 (RCall w) w v l) (hx : RWorld w rv mv x) (h7 : fits3 l = true) (h9 : fits9 x = true) (hn : l.length ≤ 200) (hs : smallB x = false) :
    Calls Try.prog 7 #[v, worldV rv mv x] w fun e w' => e = .returned (.bool true) ∧ Fr [] w w' := by
  obtain ⟨la, lc, rfl, hl1, hl2⟩ := hl.shape
  obtain ⟨ra, rc, hrv, hrm⟩ := sl_len hx.rg
  obtain ⟨ma, mc, hmv, hmm⟩ := sl_len hx.mm
  simp only [List.length_map] at hrv hmv hrm hmm
  subst hrv hmv
  have Hl := Lib.hid hl
  have Hx := Lib.hid hx
  have HA : Hid (Fr [] w (w.alloc (.cells #[.slice ra x.regs.length rc, vi x.base, vi x.cfa, .int .u64 (x.at_ : Int), .slice ma x.mem.length mc] 52))) := (Fr.refl _ _).alloc _
  obtain ⟨c00, c01, c02, c03, c04⟩ := box_at (Fr.refl [] (w.alloc (.cells #[.slice ra x.regs.length rc, vi x.base, vi x.cfa, .int .u64 (x.at_ : Int), .slice ma x.mem.length mc] 52)))
  have H7 := Lib.hid h7
  clear h7
  have H9 : Hid ((decide (x.regs.length ≤ 2147483647) && decide (x.mem.length ≤ 2147483647)) = true) := h9
  clear h9
  have HS : Hid ((decide (x.regs.length ≤ 100) && decide (x.mem.length ≤ 10000) && decide (x.at_ + x.mem.length < 18446744073709551616)) = false) := hs
  clear hs
  have hn1 : ¬ (200 : Int) < (l.length : Int) := by omega
  have hn2 : decide ((200 : Int) < (l.length : Int)) = false := by simpa using hn1
  clear hl hx
  go_enter Try.func7, Try.ntmps7
  go_wp2_with (go_at_call 24; go_must (refine (zzFits7_any w _ l _ Hl.out HA.out).mono ?_); rw [H7.out]; rintro e w1 ⟨rfl, hf1⟩; have F1 : Hid (Fr [] (w.alloc (.cells #[.slice ra x.regs.length rc, vi x.base, vi x.cfa, .int .u64 (x.at_ : Int), .slice ma x.mem.length mc] 52)) w1) := (Fr.refl [] (w.alloc (.cells #[.slice ra x.regs.length rc, vi x.base, vi x.cfa, .int .u64 (x.at_ : Int), .slice ma x.mem.length mc] 52))).then hf1; clear hf1; obtain ⟨c10, c11, c12, c13, c14⟩ := box_at F1.out; )
  go_wp2_with (go_at_call 25; go_must (refine (zzFits9_any _ _ _ _ _ _ _ _ _ _).mono ?_); rw [H9.out]; rintro e w2 ⟨rfl, hf2⟩; have F2 : Hid (Fr [] (w.alloc (.cells #[.slice ra x.regs.length rc, vi x.base, vi x.cfa, .int .u64 (x.at_ : Int), .slice ma x.mem.length mc] 52)) w2) := F1.out.then hf2; clear hf2; obtain ⟨c20, c21, c22, c23, c24⟩ := box_at F2.out; )
  go_wp2_with (go_at_call 26; go_must (refine (small_any _ _ _ _ _ _ _ _ _ _ Hx.out.b3).mono ?_); rw [HS.out]; rintro e w3 ⟨rfl, hf3⟩; have F3 : Hid (Fr [] (w.alloc (.cells #[.slice ra x.regs.length rc, vi x.base, vi x.cfa, .int .u64 (x.at_ : Int), .slice ma x.mem.length mc] 52)) w3) := F2.out.then hf3; clear hf3; obtain ⟨c30, c31, c32, c33, c34⟩ := box_at F3.out; )
  go_wp2_with (go_at_call 11; go_must (refine (works_any _).mono ?_); rintro e w4 ⟨rfl, hf4⟩; have F4 : Hid (Fr [] (w.alloc (.cells #[.slice ra x.regs.length rc, vi x.base, vi x.cfa, .int .u64 (x.at_ : Int), .slice ma x.mem.length mc] 52)) w4) := F3.out.then hf4; clear hf4; )
  go_wp2_with fail
  go_ret
  exact ⟨rfl, HA.out.then F4.out⟩

set_option maxRecDepth 100000 in
set_option maxHeartbeats 8000000 in
theorem FnE_E (v rv mv : Value) (l : List LCall) (x : LWorld) (w : World) (hl : RSl 4 (RCall w) w v l) (hx : RWorld w rv mv x) (h7 : fits3 l = true) (h9 : fits9 x = true) (hn : l.length ≤ 200) (hs : smallB x = true) (he : exprOk l = false) :
    Calls Try.prog 7 #[v, worldV rv mv x] w fun e w' => e = .returned (.bool true) ∧ Fr [] w w' := by
  obtain ⟨la, lc, rfl, hl1, hl2⟩ := hl.shape
  obtain ⟨ra, rc, hrv, hrm⟩ := sl_len hx.rg
  obtain ⟨ma, mc, hmv, hmm⟩ := sl_len hx.mm
  simp only [List.length_map] at hrv hmv hrm hmm
  subst hrv hmv
  have Hl := Lib.hid hl
  have Hx := Lib.hid hx
  have HA : Hid (Fr [] w (w.alloc (.cells #[.slice ra x.regs.length rc, vi x.base, vi x.cfa, .int .u64 (x.at_ : Int), .slice ma x.mem.length mc] 52))) := (Fr.refl _ _).alloc _
  obtain ⟨c00, c01, c02, c03, c04⟩ := box_at (Fr.refl [] (w.alloc (.cells #[.slice ra x.regs.length rc, vi x.base, vi x.cfa, .int .u64 (x.at_ : Int), .slice ma x.mem.length mc] 52)))
  have H7 := Lib.hid h7
  clear h7
  have H9 : Hid ((decide (x.regs.length ≤ 2147483647) && decide (x.mem.length ≤ 2147483647)) = true) := h9
  clear h9
  have HS : Hid ((decide (x.regs.length ≤ 100) && decide (x.mem.length ≤ 10000) && decide (x.at_ + x.mem.length < 18446744073709551616)) = true) := hs
  clear hs
  have hn1 : ¬ (200 : Int) < (l.length : Int) := by omega
  have hn2 : decide ((200 : Int) < (l.length : Int)) = false := by simpa using hn1
  have HE := Lib.hid he
  clear he
  clear hl hx
  go_enter Try.func7, Try.ntmps7
  go_wp2_with (go_at_call 24; go_must (refine (zzFits7_any w _ l _ Hl.out HA.out).mono ?_); rw [H7.out]; rintro e w1 ⟨rfl, hf1⟩; have F1 : Hid (Fr [] (w.alloc (.cells #[.slice ra x.regs.length rc, vi x.base, vi x.cfa, .int .u64 (x.at_ : Int), .slice ma x.mem.length mc] 52)) w1) := (Fr.refl [] (w.alloc (.cells #[.slice ra x.regs.length rc, vi x.base, vi x.cfa, .int .u64 (x.at_ : Int), .slice ma x.mem.length mc] 52))).then hf1; clear hf1; obtain ⟨c10, c11, c12, c13, c14⟩ := box_at F1.out; )
  go_wp2_with (go_at_call 25; go_must (refine (zzFits9_any _ _ _ _ _ _ _ _ _ _).mono ?_); rw [H9.out]; rintro e w2 ⟨rfl, hf2⟩; have F2 : Hid (Fr [] (w.alloc (.cells #[.slice ra x.regs.length rc, vi x.base, vi x.cfa, .int .u64 (x.at_ : Int), .slice ma x.mem.length mc] 52)) w2) := F1.out.then hf2; clear hf2; obtain ⟨c20, c21, c22, c23, c24⟩ := box_at F2.out; )
  go_wp2_with (go_at_call 26; go_must (refine (small_any _ _ _ _ _ _ _ _ _ _ Hx.out.b3).mono ?_); rw [HS.out]; rintro e w3 ⟨rfl, hf3⟩; have F3 : Hid (Fr [] (w.alloc (.cells #[.slice ra x.regs.length rc, vi x.base, vi x.cfa, .int .u64 (x.at_ : Int), .slice ma x.mem.length mc] 52)) w3) := F2.out.then hf3; clear hf3; obtain ⟨c30, c31, c32, c33, c34⟩ := box_at F3.out; )
  go_wp2_with (go_at_call 27; go_must (refine (Expression_any w _ l _ Hl.out (HA.out.then F3.out) (by omega)).mono ?_); rintro e w4 hx4; obtain ⟨v4, rfl, hf4⟩ := ExprPost.bad hx4 HE.out; clear hx4; have F4 : Hid (Fr [] (w.alloc (.cells #[.slice ra x.regs.length rc, vi x.base, vi x.cfa, .int .u64 (x.at_ : Int), .slice ma x.mem.length mc] 52)) w4) := F3.out.then hf4; clear hf4; obtain ⟨c40, c41, c42, c43, c44⟩ := box_at F4.out; )
  go_wp2_with (go_at_call 11; go_must (refine (works_any _).mono ?_); rintro e w5 ⟨rfl, hf5⟩; have F5 : Hid (Fr [] (w.alloc (.cells #[.slice ra x.regs.length rc, vi x.base, vi x.cfa, .int .u64 (x.at_ : Int), .slice ma x.mem.length mc] 52)) w5) := F4.out.then hf5; clear hf5; )
  go_wp2_with fail
  go_ret
  exact ⟨rfl, HA.out.then F5.out⟩

set_option maxRecDepth 100000 in
set_option maxHeartbeats 8000000 in
theorem FnE_F (v rv mv : Value) (l : List LCall) (x : LWorld) (w : World) (hl : RSl 4 (RCall w) w v l) (hx : RWorld w rv mv x) (h7 : fits3 l = true) (h9 : fits9 x = true) (hn : l.length ≤ 200) (hs : smallB x = true) (he : exprOk l = true) (ho : evalS x l (exprL l).length = .left) :
    Calls Try.prog 7 #[v, worldV rv mv x] w fun e w' => e = .returned (.bool true) ∧ Fr [] w w' := by
  obtain ⟨la, lc, rfl, hl1, hl2⟩ := hl.shape
  obtain ⟨ra, rc, hrv, hrm⟩ := sl_len hx.rg
  obtain ⟨ma, mc, hmv, hmm⟩ := sl_len hx.mm
  simp only [List.length_map] at hrv hmv hrm hmm
  subst hrv hmv
  have Hl := Lib.hid hl
  have Hx := Lib.hid hx
  have HA : Hid (Fr [] w (w.alloc (.cells #[.slice ra x.regs.length rc, vi x.base, vi x.cfa, .int .u64 (x.at_ : Int), .slice ma x.mem.length mc] 52))) := (Fr.refl _ _).alloc _
  obtain ⟨c00, c01, c02, c03, c04⟩ := box_at (Fr.refl [] (w.alloc (.cells #[.slice ra x.regs.length rc, vi x.base, vi x.cfa, .int .u64 (x.at_ : Int), .slice ma x.mem.length mc] 52)))
  have H7 := Lib.hid h7
  clear h7
  have H9 : Hid ((decide (x.regs.length ≤ 2147483647) && decide (x.mem.length ≤ 2147483647)) = true) := h9
  clear h9
  have HS : Hid ((decide (x.regs.length ≤ 100) && decide (x.mem.length ≤ 10000) && decide (x.at_ + x.mem.length < 18446744073709551616)) = true) := hs
  clear hs
  have hn1 : ¬ (200 : Int) < (l.length : Int) := by omega
  have hn2 : decide ((200 : Int) < (l.length : Int)) = false := by simpa using hn1
  have HL : Hid ((exprL l).length ≤ 29800 ∧ (exprL l).length ≤ 100000) := by have := exprL_le he (rcall_i64 hl) hn; exact ⟨this, by omega⟩
  have HK := Lib.hid (exprOk_known he)
  have HJ := Lib.hid (exprOk_jumps he)
  have HE := Lib.hid he
  clear he
  have HO := Lib.hid ho
  clear ho
  clear hl hx
  go_enter Try.func7, Try.ntmps7
  go_wp2_with (go_at_call 24; go_must (refine (zzFits7_any w _ l _ Hl.out HA.out).mono ?_); rw [H7.out]; rintro e w1 ⟨rfl, hf1⟩; have F1 : Hid (Fr [] (w.alloc (.cells #[.slice ra x.regs.length rc, vi x.base, vi x.cfa, .int .u64 (x.at_ : Int), .slice ma x.mem.length mc] 52)) w1) := (Fr.refl [] (w.alloc (.cells #[.slice ra x.regs.length rc, vi x.base, vi x.cfa, .int .u64 (x.at_ : Int), .slice ma x.mem.length mc] 52))).then hf1; clear hf1; obtain ⟨c10, c11, c12, c13, c14⟩ := box_at F1.out; )
  go_wp2_with (go_at_call 25; go_must (refine (zzFits9_any _ _ _ _ _ _ _ _ _ _).mono ?_); rw [H9.out]; rintro e w2 ⟨rfl, hf2⟩; have F2 : Hid (Fr [] (w.alloc (.cells #[.slice ra x.regs.length rc, vi x.base, vi x.cfa, .int .u64 (x.at_ : Int), .slice ma x.mem.length mc] 52)) w2) := F1.out.then hf2; clear hf2; obtain ⟨c20, c21, c22, c23, c24⟩ := box_at F2.out; )
  go_wp2_with (go_at_call 26; go_must (refine (small_any _ _ _ _ _ _ _ _ _ _ Hx.out.b3).mono ?_); rw [HS.out]; rintro e w3 ⟨rfl, hf3⟩; have F3 : Hid (Fr [] (w.alloc (.cells #[.slice ra x.regs.length rc, vi x.base, vi x.cfa, .int .u64 (x.at_ : Int), .slice ma x.mem.length mc] 52)) w3) := F2.out.then hf3; clear hf3; obtain ⟨c30, c31, c32, c33, c34⟩ := box_at F3.out; )
  go_wp2_with (go_at_call 27; go_must (refine (Expression_any w _ l _ Hl.out (HA.out.then F3.out) (by omega)).mono ?_); rintro e w4 hx4; obtain ⟨a4, k4, rfl, ho4, hf4⟩ := ExprPost.ok hx4 HE.out; have Ho4 := Lib.hid ho4; clear ho4 hx4; have F4 : Hid (Fr [] (w.alloc (.cells #[.slice ra x.regs.length rc, vi x.base, vi x.cfa, .int .u64 (x.at_ : Int), .slice ma x.mem.length mc] 52)) w4) := F3.out.then hf4; clear hf4; obtain ⟨c40, c41, c42, c43, c44⟩ := box_at F4.out; )
  go_wp2_with (go_at_call 28; go_must (refine (sEvaluate_any w _ _ _ l x (exprL l).length _ Hl.out Hx.out (HA.out.then F4.out) HL.out.2 HK.out HJ.out).mono ?_); rw [HO.out]; rintro e w5 ⟨hf5, rfl⟩; have F5 : Hid (Fr [] (w.alloc (.cells #[.slice ra x.regs.length rc, vi x.base, vi x.cfa, .int .u64 (x.at_ : Int), .slice ma x.mem.length mc] 52)) w5) := F4.out.then hf5; clear hf5; obtain ⟨c50, c51, c52, c53, c54⟩ := box_at F5.out; )
  go_wp2_with (go_at_call 11; go_must (refine (works_any _).mono ?_); rintro e w6 ⟨rfl, hf6⟩; have F6 : Hid (Fr [] (w.alloc (.cells #[.slice ra x.regs.length rc, vi x.base, vi x.cfa, .int .u64 (x.at_ : Int), .slice ma x.mem.length mc] 52)) w6) := F5.out.then hf6; clear hf6; )
  go_wp2_with fail
  go_ret
  exact ⟨rfl, HA.out.then F6.out⟩

set_option maxRecDepth 100000 in
set_option maxHeartbeats 8000000 in
theorem FnE_G (v rv mv : Value) (l : List LCall) (x : LWorld) (w : World) (hl : RSl 4 (RCall w) w v l) (hx : RWorld w rv mv x) (h7 : fits3 l = true) (h9 : fits9 x = true) (hn : l.length ≤ 200) (hs : smallB x = true) (he : exprOk l = true) (ho : evalS x l (exprL l).length = .bad) (hop : ∀ D : CxD, CxS D x → D.code = exprL l → D.cfa = x.cfa → D.base = x.base → ∀ k (h : k < l.length), OpGood D x l k l[k]) :
    Calls Try.prog 7 #[v, worldV rv mv x] w fun e w' => e = .returned (.bool true) ∧ Fr [] w w' := by
  obtain ⟨la, lc, rfl, hl1, hl2⟩ := hl.shape
  obtain ⟨ra, rc, hrv, hrm⟩ := sl_len hx.rg
  obtain ⟨ma, mc, hmv, hmm⟩ := sl_len hx.mm
  simp only [List.length_map] at hrv hmv hrm hmm
  subst hrv hmv
  have Hl := Lib.hid hl
  have Hx := Lib.hid hx
  have HA : Hid (Fr [] w (w.alloc (.cells #[.slice ra x.regs.length rc, vi x.base, vi x.cfa, .int .u64 (x.at_ : Int), .slice ma x.mem.length mc] 52))) := (Fr.refl _ _).alloc _
  obtain ⟨c00, c01, c02, c03, c04⟩ := box_at (Fr.refl [] (w.alloc (.cells #[.slice ra x.regs.length rc, vi x.base, vi x.cfa, .int .u64 (x.at_ : Int), .slice ma x.mem.length mc] 52)))
  have HB : Hid (x.regs.length ≤ 100 ∧ x.mem.length ≤ 10000 ∧ x.at_ + x.mem.length < 18446744073709551616) := by simp only [smallB, Bool.and_eq_true, decide_eq_true_eq] at hs; exact ⟨hs.1.1, hs.1.2, hs.2⟩
  have Hop := Lib.hid hop
  clear hop
  have H7 := Lib.hid h7
  clear h7
  have H9 : Hid ((decide (x.regs.length ≤ 2147483647) && decide (x.mem.length ≤ 2147483647)) = true) := h9
  clear h9
  have HS : Hid ((decide (x.regs.length ≤ 100) && decide (x.mem.length ≤ 10000) && decide (x.at_ + x.mem.length < 18446744073709551616)) = true) := hs
  clear hs
  have hn1 : ¬ (200 : Int) < (l.length : Int) := by omega
  have hn2 : decide ((200 : Int) < (l.length : Int)) = false := by simpa using hn1
  have HL : Hid ((exprL l).length ≤ 29800 ∧ (exprL l).length ≤ 100000) := by have := exprL_le he (rcall_i64 hl) hn; exact ⟨this, by omega⟩
  have HK := Lib.hid (exprOk_known he)
  have HJ := Lib.hid (exprOk_jumps he)
  have HE := Lib.hid he
  clear he
  have HO := Lib.hid ho
  clear ho
  have HN : Hid (Out.bad ≠ Out.left) := by simp [Hid]
  have HPk : Hid (∀ s, Out.bad = .fine s → (resP s).length ≤ 1000000 ∧ ∀ p ∈ resP s, (p.kind = 0 ∨ p.kind = 1 ∨ p.kind = 2) ∧ p.bytes.length ≤ 1000000) := fun s h => by cases h
  clear hl hx
  go_enter Try.func7, Try.ntmps7
  go_wp2_with (go_at_call 24; go_must (refine (zzFits7_any w _ l _ Hl.out HA.out).mono ?_); rw [H7.out]; rintro e w1 ⟨rfl, hf1⟩; have F1 : Hid (Fr [] (w.alloc (.cells #[.slice ra x.regs.length rc, vi x.base, vi x.cfa, .int .u64 (x.at_ : Int), .slice ma x.mem.length mc] 52)) w1) := (Fr.refl [] (w.alloc (.cells #[.slice ra x.regs.length rc, vi x.base, vi x.cfa, .int .u64 (x.at_ : Int), .slice ma x.mem.length mc] 52))).then hf1; clear hf1; obtain ⟨c10, c11, c12, c13, c14⟩ := box_at F1.out; )
  go_wp2_with (go_at_call 25; go_must (refine (zzFits9_any _ _ _ _ _ _ _ _ _ _).mono ?_); rw [H9.out]; rintro e w2 ⟨rfl, hf2⟩; have F2 : Hid (Fr [] (w.alloc (.cells #[.slice ra x.regs.length rc, vi x.base, vi x.cfa, .int .u64 (x.at_ : Int), .slice ma x.mem.length mc] 52)) w2) := F1.out.then hf2; clear hf2; obtain ⟨c20, c21, c22, c23, c24⟩ := box_at F2.out; )
  go_wp2_with (go_at_call 26; go_must (refine (small_any _ _ _ _ _ _ _ _ _ _ Hx.out.b3).mono ?_); rw [HS.out]; rintro e w3 ⟨rfl, hf3⟩; have F3 : Hid (Fr [] (w.alloc (.cells #[.slice ra x.regs.length rc, vi x.base, vi x.cfa, .int .u64 (x.at_ : Int), .slice ma x.mem.length mc] 52)) w3) := F2.out.then hf3; clear hf3; obtain ⟨c30, c31, c32, c33, c34⟩ := box_at F3.out; )
  go_wp2_with (go_at_call 27; go_must (refine (Expression_any w _ l _ Hl.out (HA.out.then F3.out) (by omega)).mono ?_); rintro e w4 hx4; obtain ⟨a4, k4, rfl, ho4, hf4⟩ := ExprPost.ok hx4 HE.out; have Ho4 := Lib.hid ho4; clear ho4 hx4; have F4 : Hid (Fr [] (w.alloc (.cells #[.slice ra x.regs.length rc, vi x.base, vi x.cfa, .int .u64 (x.at_ : Int), .slice ma x.mem.length mc] 52)) w4) := F3.out.then hf4; clear hf4; obtain ⟨c40, c41, c42, c43, c44⟩ := box_at F4.out; )
  go_wp2_with (go_at_call 28; go_must (refine (sEvaluate_any w _ _ _ l x (exprL l).length _ Hl.out Hx.out (HA.out.then F4.out) HL.out.2 HK.out HJ.out).mono ?_); rw [HO.out]; rintro e w5 ⟨hf5, rfl⟩; have F45 := Lib.hid hf5; have F5 : Hid (Fr [] (w.alloc (.cells #[.slice ra x.regs.length rc, vi x.base, vi x.cfa, .int .u64 (x.at_ : Int), .slice ma x.mem.length mc] 52)) w5) := F4.out.then hf5; clear hf5; obtain ⟨c50, c51, c52, c53, c54⟩ := box_at F5.out; )
  go_wp2_with (go_at_call 30; go_must (refine (world_any _ _ _ _ _ _ _ _ _ _).mono ?_); rintro e w6 ⟨rfl, hf6⟩; have F46 := Lib.hid (F45.out.then hf6); have F56 := Lib.hid hf6; have F6 : Hid (Fr [] (w.alloc (.cells #[.slice ra x.regs.length rc, vi x.base, vi x.cfa, .int .u64 (x.at_ : Int), .slice ma x.mem.length mc] 52)) w6) := F5.out.then hf6; clear hf6; obtain ⟨c60, c61, c62, c63, c64⟩ := box_at F6.out; )
  go_wp2_with (go_at_call 29; go_must (refine (Evaluate_any _ _ _ x l (exprL l) _ _ (Hx.out.fr (HA.out.then F6.out)) HB.out.1 HB.out.2.1 HB.out.2.2 (Sl.fr (own_sl Ho4.out) F46.out (by simp)) HL.out.2 rfl HO.out HN.out HK.out Hop.out HPk.out).mono ?_); rintro e w7 ⟨hf7, rfl⟩; have F57 := Lib.hid (F56.out.then hf7); have F7 : Hid (Fr [] (w.alloc (.cells #[.slice ra x.regs.length rc, vi x.base, vi x.cfa, .int .u64 (x.at_ : Int), .slice ma x.mem.length mc] 52)) w7) := F6.out.then hf7; clear hf7; obtain ⟨c70, c71, c72, c73, c74⟩ := box_at F7.out; )
  go_wp2_with (go_at_call 11; go_must (refine (works_any _).mono ?_); rintro e w8 ⟨rfl, hf8⟩; have F8 : Hid (Fr [] (w.alloc (.cells #[.slice ra x.regs.length rc, vi x.base, vi x.cfa, .int .u64 (x.at_ : Int), .slice ma x.mem.length mc] 52)) w8) := F7.out.then hf8; clear hf8; )
  go_wp2_with fail
  go_ret
  exact ⟨rfl, HA.out.then F8.out⟩

set_option maxRecDepth 100000 in
set_option maxHeartbeats 8000000 in
theorem FnE_H0 (v rv mv : Value) (l : List LCall) (x : LWorld) (w : World) (hl : RSl 4 (RCall w) w v l) (hx : RWorld w rv mv x) (s : LSt) (h7 : fits3 l = true) (h9 : fits9 x = true) (hn : l.length ≤ 200) (hs : smallB x = true) (he : exprOk l = true) (ho : evalS x l (exprL l).length = .fine s) (hr : resP s = []) (hop : ∀ D : CxD, CxS D x → D.code = exprL l → D.cfa = x.cfa → D.base = x.base → ∀ k (h : k < l.length), OpGood D x l k l[k]) :
    Calls Try.prog 7 #[v, worldV rv mv x] w fun e w' => e = .returned (.bool true) ∧ Fr [] w w' := by
  obtain ⟨la, lc, rfl, hl1, hl2⟩ := hl.shape
  obtain ⟨ra, rc, hrv, hrm⟩ := sl_len hx.rg
  obtain ⟨ma, mc, hmv, hmm⟩ := sl_len hx.mm
  simp only [List.length_map] at hrv hmv hrm hmm
  subst hrv hmv
  have Hl := Lib.hid hl
  have Hx := Lib.hid hx
  have HA : Hid (Fr [] w (w.alloc (.cells #[.slice ra x.regs.length rc, vi x.base, vi x.cfa, .int .u64 (x.at_ : Int), .slice ma x.mem.length mc] 52))) := (Fr.refl _ _).alloc _
  obtain ⟨c00, c01, c02, c03, c04⟩ := box_at (Fr.refl [] (w.alloc (.cells #[.slice ra x.regs.length rc, vi x.base, vi x.cfa, .int .u64 (x.at_ : Int), .slice ma x.mem.length mc] 52)))
  have HB : Hid (x.regs.length ≤ 100 ∧ x.mem.length ≤ 10000 ∧ x.at_ + x.mem.length < 18446744073709551616) := by simp only [smallB, Bool.and_eq_true, decide_eq_true_eq] at hs; exact ⟨hs.1.1, hs.1.2, hs.2⟩
  have Hop := Lib.hid hop
  clear hop
  have HN : Hid (Out.fine s ≠ Out.left) := by simp [Hid]
  have hpk := evalS_ok (exprOk_known he) ho
  have HPo := Lib.hid hpk.2
  have HPk : Hid (∀ s', Out.fine s = .fine s' → (resP s').length ≤ 1000000 ∧ ∀ p ∈ resP s', (p.kind = 0 ∨ p.kind = 1 ∨ p.kind = 2) ∧ p.bytes.length ≤ 1000000) := fun s' h => by
    cases h; exact ⟨hpk.1, fun p hp => ⟨(hpk.2 p hp).kind, by have := (hpk.2 p hp).len; omega⟩⟩
  clear hpk
  have HR := Lib.hid hr
  have hr0 : (resP s).length = 0 := by rw [hr]; rfl
  have hr1 : ¬ (0 : Int) < ((resP s).length : Int) := by omega
  have hr2 : decide ((0 : Int) < ((resP s).length : Int)) = false := by simpa using hr1
  clear hr hr0
  have H7 := Lib.hid h7
  clear h7
  have H9 : Hid ((decide (x.regs.length ≤ 2147483647) && decide (x.mem.length ≤ 2147483647)) = true) := h9
  clear h9
  have HS : Hid ((decide (x.regs.length ≤ 100) && decide (x.mem.length ≤ 10000) && decide (x.at_ + x.mem.length < 18446744073709551616)) = true) := hs
  clear hs
  have hn1 : ¬ (200 : Int) < (l.length : Int) := by omega
  have hn2 : decide ((200 : Int) < (l.length : Int)) = false := by simpa using hn1
  have HL : Hid ((exprL l).length ≤ 29800 ∧ (exprL l).length ≤ 100000) := by have := exprL_le he (rcall_i64 hl) hn; exact ⟨this, by omega⟩
  have HK := Lib.hid (exprOk_known he)
  have HJ := Lib.hid (exprOk_jumps he)
  have HE := Lib.hid he
  clear he
  have HO := Lib.hid ho
  clear ho
  clear hl hx
  go_enter Try.func7, Try.ntmps7
  go_wp2_with (go_at_call 24; go_must (refine (zzFits7_any w _ l _ Hl.out HA.out).mono ?_); rw [H7.out]; rintro e w1 ⟨rfl, hf1⟩; have F1 : Hid (Fr [] (w.alloc (.cells #[.slice ra x.regs.length rc, vi x.base, vi x.cfa, .int .u64 (x.at_ : Int), .slice ma x.mem.length mc] 52)) w1) := (Fr.refl [] (w.alloc (.cells #[.slice ra x.regs.length rc, vi x.base, vi x.cfa, .int .u64 (x.at_ : Int), .slice ma x.mem.length mc] 52))).then hf1; clear hf1; obtain ⟨c10, c11, c12, c13, c14⟩ := box_at F1.out; )
  go_wp2_with (go_at_call 25; go_must (refine (zzFits9_any _ _ _ _ _ _ _ _ _ _).mono ?_); rw [H9.out]; rintro e w2 ⟨rfl, hf2⟩; have F2 : Hid (Fr [] (w.alloc (.cells #[.slice ra x.regs.length rc, vi x.base, vi x.cfa, .int .u64 (x.at_ : Int), .slice ma x.mem.length mc] 52)) w2) := F1.out.then hf2; clear hf2; obtain ⟨c20, c21, c22, c23, c24⟩ := box_at F2.out; )
  go_wp2_with (go_at_call 26; go_must (refine (small_any _ _ _ _ _ _ _ _ _ _ Hx.out.b3).mono ?_); rw [HS.out]; rintro e w3 ⟨rfl, hf3⟩; have F3 : Hid (Fr [] (w.alloc (.cells #[.slice ra x.regs.length rc, vi x.base, vi x.cfa, .int .u64 (x.at_ : Int), .slice ma x.mem.length mc] 52)) w3) := F2.out.then hf3; clear hf3; obtain ⟨c30, c31, c32, c33, c34⟩ := box_at F3.out; )
  go_wp2_with (go_at_call 27; go_must (refine (Expression_any w _ l _ Hl.out (HA.out.then F3.out) (by omega)).mono ?_); rintro e w4 hx4; obtain ⟨a4, k4, rfl, ho4, hf4⟩ := ExprPost.ok hx4 HE.out; have Ho4 := Lib.hid ho4; clear ho4 hx4; have F4 : Hid (Fr [] (w.alloc (.cells #[.slice ra x.regs.length rc, vi x.base, vi x.cfa, .int .u64 (x.at_ : Int), .slice ma x.mem.length mc] 52)) w4) := F3.out.then hf4; clear hf4; obtain ⟨c40, c41, c42, c43, c44⟩ := box_at F4.out; )
  go_wp2_with (go_at_call 28; go_must (refine (sEvaluate_any w _ _ _ l x (exprL l).length _ Hl.out Hx.out (HA.out.then F4.out) HL.out.2 HK.out HJ.out).mono ?_); rw [HO.out]; rintro e w5 ⟨hf5, v5, pv5, rfl, hp5, hs5⟩; have Hp5 := Lib.hid hp5; have Hs5 := Lib.hid hs5; clear hp5 hs5; obtain ⟨pa5, pc5, hpv5, -⟩ := Hp5.out.shape; subst hpv5; have F45 := Lib.hid hf5; have hv5 : (valP x s == v5) = true := (by simp only [valP, HR.out, Hs5.out HR.out, Option.getD_some, beq_self_eq_true]); have F5 : Hid (Fr [] (w.alloc (.cells #[.slice ra x.regs.length rc, vi x.base, vi x.cfa, .int .u64 (x.at_ : Int), .slice ma x.mem.length mc] 52)) w5) := F4.out.then hf5; clear hf5; obtain ⟨c50, c51, c52, c53, c54⟩ := box_at F5.out; )
  go_wp2_with (go_at_call 30; go_must (refine (world_any _ _ _ _ _ _ _ _ _ _).mono ?_); rintro e w6 ⟨rfl, hf6⟩; have F46 := Lib.hid (F45.out.then hf6); have F56 := Lib.hid hf6; have F6 : Hid (Fr [] (w.alloc (.cells #[.slice ra x.regs.length rc, vi x.base, vi x.cfa, .int .u64 (x.at_ : Int), .slice ma x.mem.length mc] 52)) w6) := F5.out.then hf6; clear hf6; obtain ⟨c60, c61, c62, c63, c64⟩ := box_at F6.out; )
  go_wp2_with (go_at_call 29; go_must (refine (Evaluate_any _ _ _ x l (exprL l) _ _ (Hx.out.fr (HA.out.then F6.out)) HB.out.1 HB.out.2.1 HB.out.2.2 (Sl.fr (own_sl Ho4.out) F46.out (by simp)) HL.out.2 rfl HO.out HN.out HK.out Hop.out HPk.out).mono ?_); rintro e w7 ⟨hf7, pv7, rfl, hp7⟩; have Hp7 := Lib.hid hp7; clear hp7; obtain ⟨pa7, pc7, hpv7, -⟩ := Hp7.out.shape; subst hpv7; have F57 := Lib.hid (F56.out.then hf7); have F7 : Hid (Fr [] (w.alloc (.cells #[.slice ra x.regs.length rc, vi x.base, vi x.cfa, .int .u64 (x.at_ : Int), .slice ma x.mem.length mc] 52)) w7) := F6.out.then hf7; clear hf7; obtain ⟨c70, c71, c72, c73, c74⟩ := box_at F7.out; )
  go_wp2_with (go_at_call 31; go_must (refine (alike_any _ _ (resP s) _ Hp7.out (Hp5.out.fr F57.out (fun vs p h => h.fr F57.out)) HPo.out).mono ?_); rintro e w8 ⟨rfl, hf8⟩; have F8 : Hid (Fr [] (w.alloc (.cells #[.slice ra x.regs.length rc, vi x.base, vi x.cfa, .int .u64 (x.at_ : Int), .slice ma x.mem.length mc] 52)) w8) := F7.out.then hf8; clear hf8; obtain ⟨c80, c81, c82, c83, c84⟩ := box_at F8.out; )
  go_wp2_with (go_at_call 11; go_must (refine (works_any _).mono ?_); rintro e w9 ⟨rfl, hf9⟩; have F9 : Hid (Fr [] (w.alloc (.cells #[.slice ra x.regs.length rc, vi x.base, vi x.cfa, .int .u64 (x.at_ : Int), .slice ma x.mem.length mc] 52)) w9) := F8.out.then hf9; clear hf9; )
  go_wp2_with fail
  go_ret
  exact ⟨rfl, HA.out.then F9.out⟩

set_option maxRecDepth 100000 in
set_option maxHeartbeats 8000000 in
theorem FnE_H1 (v rv mv : Value) (l : List LCall) (x : LWorld) (w : World) (hl : RSl 4 (RCall w) w v l) (hx : RWorld w rv mv x) (s : LSt) (h7 : fits3 l = true) (h9 : fits9 x = true) (hn : l.length ≤ 200) (hs : smallB x = true) (he : exprOk l = true) (ho : evalS x l (exprL l).length = .fine s) (hr : 0 < (resP s).length) (hop : ∀ D : CxD, CxS D x → D.code = exprL l → D.cfa = x.cfa → D.base = x.base → ∀ k (h : k < l.length), OpGood D x l k l[k]) :
    Calls Try.prog 7 #[v, worldV rv mv x] w fun e w' => e = .returned (.bool true) ∧ Fr [] w w' := by
  obtain ⟨la, lc, rfl, hl1, hl2⟩ := hl.shape
  obtain ⟨ra, rc, hrv, hrm⟩ := sl_len hx.rg
  obtain ⟨ma, mc, hmv, hmm⟩ := sl_len hx.mm
  simp only [List.length_map] at hrv hmv hrm hmm
  subst hrv hmv
  have Hl := Lib.hid hl
  have Hx := Lib.hid hx
  have HA : Hid (Fr [] w (w.alloc (.cells #[.slice ra x.regs.length rc, vi x.base, vi x.cfa, .int .u64 (x.at_ : Int), .slice ma x.mem.length mc] 52))) := (Fr.refl _ _).alloc _
  obtain ⟨c00, c01, c02, c03, c04⟩ := box_at (Fr.refl [] (w.alloc (.cells #[.slice ra x.regs.length rc, vi x.base, vi x.cfa, .int .u64 (x.at_ : Int), .slice ma x.mem.length mc] 52)))
  have HB : Hid (x.regs.length ≤ 100 ∧ x.mem.length ≤ 10000 ∧ x.at_ + x.mem.length < 18446744073709551616) := by simp only [smallB, Bool.and_eq_true, decide_eq_true_eq] at hs; exact ⟨hs.1.1, hs.1.2, hs.2⟩
  have Hop := Lib.hid hop
  clear hop
  have HN : Hid (Out.fine s ≠ Out.left) := by simp [Hid]
  have hpk := evalS_ok (exprOk_known he) ho
  have HPo := Lib.hid hpk.2
  have HPk : Hid (∀ s', Out.fine s = .fine s' → (resP s').length ≤ 1000000 ∧ ∀ p ∈ resP s', (p.kind = 0 ∨ p.kind = 1 ∨ p.kind = 2) ∧ p.bytes.length ≤ 1000000) := fun s' h => by
    cases h; exact ⟨hpk.1, fun p hp => ⟨(hpk.2 p hp).kind, by have := (hpk.2 p hp).len; omega⟩⟩
  clear hpk
  have hr1 : (0 : Int) < ((resP s).length : Int) := by omega
  have H7 := Lib.hid h7
  clear h7
  have H9 : Hid ((decide (x.regs.length ≤ 2147483647) && decide (x.mem.length ≤ 2147483647)) = true) := h9
  clear h9
  have HS : Hid ((decide (x.regs.length ≤ 100) && decide (x.mem.length ≤ 10000) && decide (x.at_ + x.mem.length < 18446744073709551616)) = true) := hs
  clear hs
  have hn1 : ¬ (200 : Int) < (l.length : Int) := by omega
  have hn2 : decide ((200 : Int) < (l.length : Int)) = false := by simpa using hn1
  have HL : Hid ((exprL l).length ≤ 29800 ∧ (exprL l).length ≤ 100000) := by have := exprL_le he (rcall_i64 hl) hn; exact ⟨this, by omega⟩
  have HK := Lib.hid (exprOk_known he)
  have HJ := Lib.hid (exprOk_jumps he)
  have HE := Lib.hid he
  clear he
  have HO := Lib.hid ho
  clear ho
  clear hl hx
  go_enter Try.func7, Try.ntmps7
  go_wp2_with (go_at_call 24; go_must (refine (zzFits7_any w _ l _ Hl.out HA.out).mono ?_); rw [H7.out]; rintro e w1 ⟨rfl, hf1⟩; have F1 : Hid (Fr [] (w.alloc (.cells #[.slice ra x.regs.length rc, vi x.base, vi x.cfa, .int .u64 (x.at_ : Int), .slice ma x.mem.length mc] 52)) w1) := (Fr.refl [] (w.alloc (.cells #[.slice ra x.regs.length rc, vi x.base, vi x.cfa, .int .u64 (x.at_ : Int), .slice ma x.mem.length mc] 52))).then hf1; clear hf1; obtain ⟨c10, c11, c12, c13, c14⟩ := box_at F1.out; )
  go_wp2_with (go_at_call 25; go_must (refine (zzFits9_any _ _ _ _ _ _ _ _ _ _).mono ?_); rw [H9.out]; rintro e w2 ⟨rfl, hf2⟩; have F2 : Hid (Fr [] (w.alloc (.cells #[.slice ra x.regs.length rc, vi x.base, vi x.cfa, .int .u64 (x.at_ : Int), .slice ma x.mem.length mc] 52)) w2) := F1.out.then hf2; clear hf2; obtain ⟨c20, c21, c22, c23, c24⟩ := box_at F2.out; )
  go_wp2_with (go_at_call 26; go_must (refine (small_any _ _ _ _ _ _ _ _ _ _ Hx.out.b3).mono ?_); rw [HS.out]; rintro e w3 ⟨rfl, hf3⟩; have F3 : Hid (Fr [] (w.alloc (.cells #[.slice ra x.regs.length rc, vi x.base, vi x.cfa, .int .u64 (x.at_ : Int), .slice ma x.mem.length mc] 52)) w3) := F2.out.then hf3; clear hf3; obtain ⟨c30, c31, c32, c33, c34⟩ := box_at F3.out; )
  go_wp2_with (go_at_call 27; go_must (refine (Expression_any w _ l _ Hl.out (HA.out.then F3.out) (by omega)).mono ?_); rintro e w4 hx4; obtain ⟨a4, k4, rfl, ho4, hf4⟩ := ExprPost.ok hx4 HE.out; have Ho4 := Lib.hid ho4; clear ho4 hx4; have F4 : Hid (Fr [] (w.alloc (.cells #[.slice ra x.regs.length rc, vi x.base, vi x.cfa, .int .u64 (x.at_ : Int), .slice ma x.mem.length mc] 52)) w4) := F3.out.then hf4; clear hf4; obtain ⟨c40, c41, c42, c43, c44⟩ := box_at F4.out; )
  go_wp2_with (go_at_call 28; go_must (refine (sEvaluate_any w _ _ _ l x (exprL l).length _ Hl.out Hx.out (HA.out.then F4.out) HL.out.2 HK.out HJ.out).mono ?_); rw [HO.out]; rintro e w5 ⟨hf5, v5, pv5, rfl, hp5, hs5⟩; have Hp5 := Lib.hid hp5; have Hs5 := Lib.hid hs5; clear hp5 hs5; obtain ⟨pa5, pc5, hpv5, -⟩ := Hp5.out.shape; subst hpv5; have F45 := Lib.hid hf5; have F5 : Hid (Fr [] (w.alloc (.cells #[.slice ra x.regs.length rc, vi x.base, vi x.cfa, .int .u64 (x.at_ : Int), .slice ma x.mem.length mc] 52)) w5) := F4.out.then hf5; clear hf5; obtain ⟨c50, c51, c52, c53, c54⟩ := box_at F5.out; )
  go_wp2_with (go_at_call 30; go_must (refine (world_any _ _ _ _ _ _ _ _ _ _).mono ?_); rintro e w6 ⟨rfl, hf6⟩; have F46 := Lib.hid (F45.out.then hf6); have F56 := Lib.hid hf6; have F6 : Hid (Fr [] (w.alloc (.cells #[.slice ra x.regs.length rc, vi x.base, vi x.cfa, .int .u64 (x.at_ : Int), .slice ma x.mem.length mc] 52)) w6) := F5.out.then hf6; clear hf6; obtain ⟨c60, c61, c62, c63, c64⟩ := box_at F6.out; )
  go_wp2_with (go_at_call 29; go_must (refine (Evaluate_any _ _ _ x l (exprL l) _ _ (Hx.out.fr (HA.out.then F6.out)) HB.out.1 HB.out.2.1 HB.out.2.2 (Sl.fr (own_sl Ho4.out) F46.out (by simp)) HL.out.2 rfl HO.out HN.out HK.out Hop.out HPk.out).mono ?_); rintro e w7 ⟨hf7, pv7, rfl, hp7⟩; have Hp7 := Lib.hid hp7; clear hp7; obtain ⟨pa7, pc7, hpv7, -⟩ := Hp7.out.shape; subst hpv7; have F57 := Lib.hid (F56.out.then hf7); have F7 : Hid (Fr [] (w.alloc (.cells #[.slice ra x.regs.length rc, vi x.base, vi x.cfa, .int .u64 (x.at_ : Int), .slice ma x.mem.length mc] 52)) w7) := F6.out.then hf7; clear hf7; obtain ⟨c70, c71, c72, c73, c74⟩ := box_at F7.out; )
  go_wp2_with (go_at_call 31; go_must (refine (alike_any _ _ (resP s) _ Hp7.out (Hp5.out.fr F57.out (fun vs p h => h.fr F57.out)) HPo.out).mono ?_); rintro e w8 ⟨rfl, hf8⟩; have F8 : Hid (Fr [] (w.alloc (.cells #[.slice ra x.regs.length rc, vi x.base, vi x.cfa, .int .u64 (x.at_ : Int), .slice ma x.mem.length mc] 52)) w8) := F7.out.then hf8; clear hf8; obtain ⟨c80, c81, c82, c83, c84⟩ := box_at F8.out; )
  go_wp2_with (go_at_call 11; go_must (refine (works_any _).mono ?_); rintro e w9 ⟨rfl, hf9⟩; have F9 : Hid (Fr [] (w.alloc (.cells #[.slice ra x.regs.length rc, vi x.base, vi x.cfa, .int .u64 (x.at_ : Int), .slice ma x.mem.length mc] 52)) w9) := F8.out.then hf9; clear hf9; )
  go_wp2_with fail
  go_ret
  exact ⟨rfl, HA.out.then F9.out⟩

theorem FnEvaluate_walk (v rv mv : Value) (l : List LCall) (x : LWorld) (w : World) (hl : RSl 4 (RCall w) w v l) (hx : RWorld w rv mv x)
    (hop : exprOk l = true → ∀ D : CxD, CxS D x → D.code = exprL l → D.cfa = x.cfa → D.base = x.base → ∀ k (h : k < l.length), OpGood D x l k l[k]) :
    Calls Try.prog 7 #[v, worldV rv mv x] w fun e w' => e = .returned (.bool true) ∧ Fr [] w w' := by
  cases h7 : fits3 l
  · exact FnE_A v rv mv l x w hl hx h7
  cases h9 : fits9 x
  · exact FnE_B v rv mv l x w hl hx h7 h9
  by_cases hn : l.length ≤ 200
  · cases hs : smallB x
    · exact FnE_D v rv mv l x w hl hx h7 h9 hn hs
    cases he : exprOk l
    · exact FnE_E v rv mv l x w hl hx h7 h9 hn hs he
    cases ho : evalS x l (exprL l).length with
    | left => exact FnE_F v rv mv l x w hl hx h7 h9 hn hs he ho
    | bad => exact FnE_G v rv mv l x w hl hx h7 h9 hn hs he ho (hop he)
    | fine s =>
      by_cases hr : resP s = []
      · exact FnE_H0 v rv mv l x w hl hx s h7 h9 hn hs he ho hr (hop he)
      · exact FnE_H1 v rv mv l x w hl hx s h7 h9 hn hs he ho (List.length_pos_iff.2 hr) (hop he)
  · exact FnE_C v rv mv l x w hl hx h7 h9 (by omega)
end Go.Proofs.Ytahohmdfllgedaa
