/- impl.rule: a rule, as it is handed out. -/
import Derived.Test.YtahohmdfllgedaaGreatFa7
import Derived.Deep.Cut
import Derived.Deep.CutRange
import Derived.Deep.CutBlock
import Derived.Test.YtahohmdfllgedaaGreatFa1
set_option linter.unusedVariables false
set_option linter.unusedSimpArgs false
namespace Go.Proofs.YtahohmdfllgedaaGreat
open Go.RowKit

/-- The kind of a rule, as it is handed out. -/
def kindI (k : Int) : Int := if k = 7 then 8 else if k = 8 then 7 else k
/-- A rule that has been handed out. -/
def IRul (base : Nat) (w : World) (r : LRule) (v : Value) : Prop :=
  ∃ a c, v = .agg #[.int .i64 (kindI r.kind), .int .i64 (IntKind.i64.wrap r.reg), .int .i64 r.n, .slice a r.expr.length c] ∧ w.ownsRow base 5 1 (.slice a r.expr.length c) r.expr.length (vbs r.expr)

set_option maxRecDepth 100000 in
set_option maxHeartbeats 4000000 in
theorem irule_any (r : LRule) (ev : Value) (w : World) (he : Sl w ev (vbs r.expr)) (hl : r.expr.length ≤ 1099511627776) (hk : 0 ≤ r.kind ∧ r.kind ≤ 9) :
    Calls Tryz.prog 28 #[ruleV r ev] w fun e w' => (∃ v, e = .returned v ∧ IRul w.heap.size w' r v) ∧ Fr [] w w' := by
  obtain ⟨k, reg, n, ex⟩ := r
  simp only at he hl hk
  obtain ⟨ea, ec, rfl⟩ := sl_form he
  have HE := Lib.hid he
  have HL := Lib.hid hl
  obtain ⟨m, hm⟩ : ∃ m, ex.length = m := ⟨_, rfl⟩
  have HM := Lib.hid hm
  have hcase : k = 0 ∨ k = 1 ∨ k = 2 ∨ k = 3 ∨ k = 4 ∨ k = 5 ∨ k = 6 ∨ k = 7 ∨ k = 8 ∨ k = 9 := by omega
  obtain ⟨w2, hw2⟩ : ∃ w2, (w.alloc (.cells #[.int .u8 k, .int .i64 n, .int .u64 reg, .slice ea m ec] 81)).alloc (.cells #[.int .i64 0, .int .i64 0, .int .i64 0, .slice none 0 0] 29) = w2 := ⟨_, rfl⟩
  have F2 : Hid (Fr [] w w2) := by rw [← hw2]; exact ((Fr.refl _ _).alloc _).alloc _
  have B1 : Hid (w2.heap[w.heap.size]? = some (.cells #[.int .u8 k, .int .i64 n, .int .u64 reg, .slice ea m ec] 81 (0, 0))) := by rw [← hw2]; exact blk_alloc (blk_new w _)
  have B2 : Hid (w2.heap[w.heap.size + 1]? = some (.cells #[.int .i64 0, .int .i64 0, .int .i64 0, .slice none 0 0] 29 (0, 0))) := by
    rw [← hw2]
    have h := blk_new (w.alloc (.cells #[.int .u8 k, .int .i64 n, .int .u64 reg, .slice ea m ec] 81)) (.cells #[.int .i64 0, .int .i64 0, .int .i64 0, .slice none 0 0] 29)
    rw [World.size_alloc] at h; exact h
  obtain ⟨g, hg⟩ : ∃ g, w.heap.size = g := ⟨_, rfl⟩
  have HG := Lib.hid hg
  clear hg
  unfold ruleV
  simp only
  rw [hm]
  clear hm he hl
  have HW := Lib.hid hw2
  clear hw2
  have y0 : w2.cell? ⟨w.heap.size, 0, none⟩ = some (.int .u8 k) := blk_cell B1.out 0
  have hw2 := HW.out
  go_enter Tryz.func28, Tryz.ntmps28
  go_upto_block 0 with (fail)
  clear hw2
  go_cut [3] from 6 to 25 (fun v wz => v = .int .i64 (kindI k) ∧ wz = w2)
  case first =>
    as_aux_lemma =>
    rcases hcase with rfl | rfl | rfl | rfl | rfl | rfl | rfl | rfl | rfl | rfl
    all_goals
      go_wp2_with fail
      go_meet
      exact ⟨rfl, rfl⟩
  case rest =>
    obtain ⟨rfl, hwc⟩ := hcut
    rw [hwc]
    clear hwc
    clear y0 hcase
    have hg := HG.out
    rw [hg] at B1 B2 ⊢
    clear hg
    have y1 : w2.cell? ⟨g, 1, none⟩ = some (.int .i64 n) := blk_cell B1.out 1
    have y2 : w2.cell? ⟨g, 2, none⟩ = some (.int .u64 reg) := blk_cell B1.out 2
    have y3 : w2.cell? ⟨g, 3, none⟩ = some (.slice ea m ec) := blk_cell B1.out 3
    go_wp2_with fail
    go_region_law (first | (go_simp; go_at_call 24; refine (Clone_any _ ex _ (by rw [HM.out] at HE; exact HE.out.fr (bs := []) (F2.out.drew) (by simp)) HL.out).mono ?_; rintro e w1 ⟨a1, c1, rfl, ho1, hf1⟩; have HO1 := Lib.hid ho1; have HF1 := Lib.hid hf1; clear ho1 hf1; have x1 : w1.cell? ⟨g, 1, none⟩ = some (.int .i64 n) := blk_cell ((((Fr.refl [] w2).drew).then HF1.out).get B1.out (by simp)) 1; have x2 : w1.cell? ⟨g, 2, none⟩ = some (.int .u64 reg) := blk_cell ((((Fr.refl [] w2).drew).then HF1.out).get B1.out (by simp)) 2; have b2 := (((Fr.refl [] w2).drew).then HF1.out).get B2.out (by simp); have B3 := Lib.hid b2; have z0 := blk_free b2 0; have z1 := blk_free b2 1; have z2 := blk_free b2 2; have z3 := blk_free b2 3; have u0 : w1.cell? ⟨g + 1, 0, none⟩ = some (.int .i64 0) := blk_cell b2 0; have u1 : w1.cell? ⟨g + 1, 1, none⟩ = some (.int .i64 0) := blk_cell b2 1; have u2 : w1.cell? ⟨g + 1, 2, none⟩ = some (.int .i64 0) := blk_cell b2 2; have u3 : w1.cell? ⟨g + 1, 3, none⟩ = some (.slice none 0 0) := blk_cell b2 3; clear b2))
    all_goals
      go_wp2_with fail
      have b6 := blk_set (blk_set (blk_set (blk_set B3.out 0 (.int .i64 (kindI k))) 1 (.int .i64 (IntKind.i64.wrap reg))) 2 (.int .i64 n)) 3 (.slice a1 ex.length c1)
      have f6 : Fr [g + 1] w1 ((((w1.setCell ⟨g + 1, 0, none⟩ (.int .i64 (kindI k))).setCell ⟨g + 1, 1, none⟩ (.int .i64 (IntKind.i64.wrap reg))).setCell ⟨g + 1, 2, none⟩ (.int .i64 n)).setCell ⟨g + 1, 3, none⟩ (.slice a1 ex.length c1)) := ((((Fr.refl _ _).setCell (.inl (by simp)) _).setCell (.inl (by simp)) _).setCell (.inl (by simp)) _).setCell (.inl (by simp)) _
      generalize ((((w1.setCell ⟨g + 1, 0, none⟩ (.int .i64 (kindI k))).setCell ⟨g + 1, 1, none⟩ (.int .i64 (IntKind.i64.wrap reg))).setCell ⟨g + 1, 2, none⟩ (.int .i64 n)).setCell ⟨g + 1, 3, none⟩ (.slice a1 ex.length c1)) = w6 at *
      have r0 : w6.cell? ⟨g + 1, 0, none⟩ = some (.int .i64 (kindI k)) := by rw [blk_cell b6]; rfl
      have r1 : w6.cell? ⟨g + 1, 1, none⟩ = some (.int .i64 (IntKind.i64.wrap reg)) := by rw [blk_cell b6]; rfl
      have r2 : w6.cell? ⟨g + 1, 2, none⟩ = some (.int .i64 n) := by rw [blk_cell b6]; rfl
      have r3 : w6.cell? ⟨g + 1, 3, none⟩ = some (.slice a1 ex.length c1) := by rw [blk_cell b6]; rfl
      refine bodyPost_ret (v := .agg #[.int .i64 (kindI k), .int .i64 (IntKind.i64.wrap reg), .int .i64 n, .slice a1 ex.length c1]) (by simp [results, Tryz.results28, go_sem, r0, r1, r2, r3]) rfl ?_
      have hb : w.heap.size ≤ w2.heap.size := F2.out.size
      have ho := own_fr HO1.out f6 (fun gg hg => by have := own_ge HO1.out hg; have := lt_heap B2.out; have e : w2.drew.heap.size = w2.heap.size := rfl; simp; omega)
      exact ⟨⟨_, rfl, a1, c1, rfl, own_base ho hb⟩, ((F2.out.drew).then HF1.out).trans f6 (fun i hi hlt => by simp at hi; have := HG.out; omega)⟩
end Go.Proofs.YtahohmdfllgedaaGreat
