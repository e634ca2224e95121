/- impl.Frame's helpers: the deferred closure.
The library's sort: cmp.Less at uint64. Turned by gen_sort.py from the kit's worked walk at int.
The library's sort: slices.insertionSortOrdered at uint64. Turned by gen_sort.py from the kit's worked walk at int. -/
import Derived.Test.YtahohmdfllgedaaGreatFa7
import Derived.Test.YtahohmdfllgedaaGreatFa10
import Derived.Test.YtahohmdfllgedaaGreatFa11
import Derived.Defers
import Derived.Recover
import Derived.Test.YtahohmdfllgedaaGreatFa0
import Derived.Test.YtahohmdfllgedaaGreatRows
import Derived.Lib.Walk
import Derived.Sort.Row
import Derived.Lib.Strings
import Derived.Sort.LotA
import Derived.WalkKit
import Derived.BigGuard
import Derived.BigCall
import Derived.CellFam
import Derived.Deep.Draws
import Derived.Deep.QuietTactic
import Derived.BigQuiet
set_option linter.unusedVariables false
set_option linter.unusedSimpArgs false
namespace Go.Proofs.YtahohmdfllgedaaGreat
open Go.RowKit

theorem setCell_same' {w : World} {b i : Nat} {u : Value} {cs : Array Value} {t : TypeId} (h : w.heap[b]? = some (.cells cs t (0, 0))) (hu : cs[i]? = some u) : w.setCell ⟨b, i, none⟩ u = w := by
  have e : (w.setCell ⟨b, i, none⟩ u).heap = w.heap := by
    apply Array.ext_getElem?
    intro j
    by_cases hj : j = b
    · subst hj
      rw [blk_set h i u, h]
      congr 2
      apply Array.ext_getElem?
      intro k
      rw [Array.getElem?_setIfInBounds]
      split
      · rename_i hk; subst hk
        split
        · rw [hu]
        · rename_i h2; rw [Array.getElem?_eq_none (by omega)] at hu; cases hu
      · rfl
    · rw [Below.heap_setCell _ _ _ _ hj]
  have e2 : w.setCell ⟨b, i, none⟩ u = { w with heap := (w.setCell ⟨b, i, none⟩ u).heap } := rfl
  rw [e2, e]
/-- The blocks of impl.Frame's results, all nought. -/
structure ZB (w : World) (p0 p1 p2 p3 p4 p5 : Nat) : Prop where
  b0 : w.heap[p0]? = some (.cells #[.int .u64 0] 23 (0, 0))
  b1 : w.heap[p1]? = some (.cells #[.int .u64 0] 23 (0, 0))
  b2 : w.heap[p2]? = some (.cells #[.int .i64 0, .int .i64 0, .int .i64 0, .slice none 0 0] 29 (0, 0))
  b3 : w.heap[p3]? = some (.cells #[.slice none 0 0] 30 (0, 0))
  b4 : w.heap[p4]? = some (.cells #[.int .i64 0] 3 (0, 0))
  b5 : w.heap[p5]? = some (.cells #[.bool false] 4 (0, 0))
theorem ZB.fr {w w' : World} {p0 p1 p2 p3 p4 p5 : Nat} (h : ZB w p0 p1 p2 p3 p4 p5) (f : Fr [] w w') : ZB w' p0 p1 p2 p3 p4 p5 := ⟨f.get h.b0 (by simp), f.get h.b1 (by simp), f.get h.b2 (by simp), f.get h.b3 (by simp), f.get h.b4 (by simp), f.get h.b5 (by simp)⟩

set_option maxRecDepth 100000 in
set_option maxHeartbeats 1000000 in
theorem iFrame1_idle (p0 p1 p2 p3 p4 p5 : Nat) (w : World) :
    CallsD Tryz.prog 22 #[.pointer (some ⟨p0, 0, none⟩), .pointer (some ⟨p1, 0, none⟩), .pointer (some ⟨p2, 0, none⟩), .pointer (some ⟨p3, 0, none⟩), .pointer (some ⟨p4, 0, none⟩), .pointer (some ⟨p5, 0, none⟩)] .returning w fun e u' w' => e = .returned (.tuple #[]) ∧ u' = .returning ∧ w' = w := by
  refine callsD_of_wpS Tryz.func22 rfl fun c₀ cs hu => ?_
  apply wpS_seq
  apply wpS_region
  simp [wpOpsS, go_sem, recoverD, hu, Tryz.ntmps22, Exit.thenS]
  refine wpS_cond (t := false) (by simp [Act.eval, Array.replicate]) ?_
  simp only [Bool.false_eq_true, if_false]
  refine wpS_of_wp (wp_skip ?_)
  cases c₀
  simp_all [bodyPostS, results, Tryz.results22]

set_option maxRecDepth 100000 in
set_option maxHeartbeats 4000000 in
theorem iFrame1_panicking (p0 p1 p2 p3 p4 p5 : Nat) (u : TypeId) (pv : Value) (w : World) (h : ZB w p0 p1 p2 p3 p4 p5) :
    CallsD Tryz.prog 22 #[.pointer (some ⟨p0, 0, none⟩), .pointer (some ⟨p1, 0, none⟩), .pointer (some ⟨p2, 0, none⟩), .pointer (some ⟨p3, 0, none⟩), .pointer (some ⟨p4, 0, none⟩), .pointer (some ⟨p5, 0, none⟩)] (.panicking [{ v := .iface u pv, recovered := false }]) w fun e u' w' =>
      e = .returned (.tuple #[]) ∧ u' = .panicking [{ v := .iface u pv, recovered := true }] ∧ w' = w := by
  have c0 : w.cell? ⟨p0, 0, none⟩ = some (.int .u64 0) := blk_cell h.b0 0
  have c1 : w.cell? ⟨p1, 0, none⟩ = some (.int .u64 0) := blk_cell h.b1 0
  have c20 : w.cell? ⟨p2, 0, none⟩ = some (.int .i64 0) := blk_cell h.b2 0
  have c21 : w.cell? ⟨p2, 1, none⟩ = some (.int .i64 0) := blk_cell h.b2 1
  have c22 : w.cell? ⟨p2, 2, none⟩ = some (.int .i64 0) := blk_cell h.b2 2
  have c23 : w.cell? ⟨p2, 3, none⟩ = some (.slice none 0 0) := blk_cell h.b2 3
  have c3 : w.cell? ⟨p3, 0, none⟩ = some (.slice none 0 0) := blk_cell h.b3 0
  have c4 : w.cell? ⟨p4, 0, none⟩ = some (.int .i64 0) := blk_cell h.b4 0
  have c5 : w.cell? ⟨p5, 0, none⟩ = some (.bool false) := blk_cell h.b5 0
  have z0 := blk_free h.b0 0
  have z1 := blk_free h.b1 0
  have z20 := blk_free h.b2 0
  have z21 := blk_free h.b2 1
  have z22 := blk_free h.b2 2
  have z23 := blk_free h.b2 3
  have z3 := blk_free h.b3 0
  have z4 := blk_free h.b4 0
  have z5 := blk_free h.b5 0
  have s0 : w.setCell ⟨p0, 0, none⟩ (.int .u64 0) = w := setCell_same' h.b0 rfl
  have s1 : w.setCell ⟨p1, 0, none⟩ (.int .u64 0) = w := setCell_same' h.b1 rfl
  have s20 : w.setCell ⟨p2, 0, none⟩ (.int .i64 0) = w := setCell_same' h.b2 rfl
  have s21 : w.setCell ⟨p2, 1, none⟩ (.int .i64 0) = w := setCell_same' h.b2 rfl
  have s22 : w.setCell ⟨p2, 2, none⟩ (.int .i64 0) = w := setCell_same' h.b2 rfl
  have s23 : w.setCell ⟨p2, 3, none⟩ (.slice none 0 0) = w := setCell_same' h.b2 rfl
  have s3 : w.setCell ⟨p3, 0, none⟩ (.slice none 0 0) = w := setCell_same' h.b3 rfl
  have s4 : w.setCell ⟨p4, 0, none⟩ (.int .i64 0) = w := setCell_same' h.b4 rfl
  have s5 : w.setCell ⟨p5, 0, none⟩ (.bool false) = w := setCell_same' h.b5 rfl
  refine callsD_of_wpS Tryz.func22 rfl fun c₀ cs hu => ?_
  apply wpS_seq
  apply wpS_region
  simp [wpOpsS, go_sem, recoverD, hu, Tryz.ntmps22, Exit.thenS]
  refine wpS_cond (t := true) (by simp [Act.eval, Array.replicate]) ?_
  simp only [if_true]
  apply wpS_region
  simp (config := { maxSteps := 2000000 }) [wpOpsS, go_sem, c0, c1, c20, c21, c22, c23, c3, c4, c5, z0, z1, z20, z21, z22, z23, z3, z4, z5, s0, s1, s20, s21, s22, s23, s3, s4, s5, bodyPostS, results, Tryz.results22]
end Go.Proofs.YtahohmdfllgedaaGreat

namespace Go.Proofs.YtahohmdfllgedaaGreat.Gs

set_option maxHeartbeats 1000000 in
theorem So_cmp_isNaN_int (x : Int) (w : World) : Calls Tryz.prog 92 #[.int .u64 x] w fun e w' => e = .returned (.bool false) ∧ w' = w := by
  go_enter Tryz.func92, Tryz.ntmps92
  go_wp2
  go_ret
  exact ⟨by simp, rfl⟩

set_option maxHeartbeats 1000000 in
theorem So_cmp_Less_int (x y : Int) (w : World) : Calls Tryz.prog 65 #[.int .u64 x, .int .u64 y] w fun e w' => e = .returned (.bool (Sort.ltInt x y)) ∧ w' = w := by
  go_enter Tryz.func65, Tryz.ntmps65
  go_wp2_with (go_at_call 92; refine (So_cmp_isNaN_int _ _).mono ?_; rintro e w' ⟨rfl, rfl⟩)
  go_ret
  exact ⟨rfl, rfl⟩

end Go.Proofs.YtahohmdfllgedaaGreat.Gs

namespace Go.Proofs.YtahohmdfllgedaaGreat.Gs
open Go.RowKit Go.Sort
def intOf : Value → Int | .int _ q => q | _ => 0

section
variable {α : Type} [Inhabited α] (lt : α → α → Bool)
theorem insInner_go (a j : Nat) (d : Array α) (hj : a < j) (hl : lt d[j]! d[j - 1]! = true) : insInner lt a j d = insInner lt a (j - 1) (swp d j (j - 1)) := by
  obtain ⟨k, rfl⟩ : ∃ k, j = k + 1 := ⟨j - 1, by omega⟩
  rw [insInner]
  simp only [Nat.add_sub_cancel] at hl ⊢
  simp [hj, hl]
theorem insInner_stop (a j : Nat) (d : Array α) (h : j ≤ a ∨ lt d[j]! d[j - 1]! = false) : insInner lt a j d = d := by
  cases j with
  | zero => rw [insInner]
  | succ k =>
    rw [insInner]
    simp only [Nat.add_sub_cancel] at h
    rcases h with h | h
    · simp [show ¬ k + 1 > a by omega]
    · simp [h]
theorem insOuter_go (a b i : Nat) (d : Array α) (h : i < b) : insOuter lt a b i d = insOuter lt a b (i + 1) (insInner lt a i d) := by rw [insOuter, if_pos h]
theorem insOuter_stop (a b i : Nat) (d : Array α) (h : ¬ i < b) : insOuter lt a b i d = d := by rw [insOuter, if_neg h]
end

section
variable {α : Type} [Inhabited α] (enc : α → Value)
theorem putRow_drewN (w : World) (m q blk off : Nat) (d : Array α) : (putRow enc (Sort.ahead w m) blk off d).drewN q = putRow enc (Sort.ahead w (m + q)) blk off d := by
  show Sort.ahead (putRow enc (Sort.ahead w m) blk off d) q = _
  rw [putRow_ahead enc w m, ahead_ahead, ← putRow_ahead]
theorem swap_worldA (w : World) (m q blk off : Nat) (d : Array α) (j k : Nat) (hj : j < d.size) (hk : k < d.size) :
    (((putRow enc (Sort.ahead w m) blk off d).drewN q).setCell ⟨blk, off + j, none⟩ (enc d[k]!)).setCell ⟨blk, off + k, none⟩ (enc d[j]!) = putRow enc (Sort.ahead w (m + q)) blk off (swp d j k) := by
  rw [putRow_drewN]
  exact putRow_swp enc _ blk off d j k hj hk
end

theorem So_insertionSort_int (blk off cap a b : Nat) (d : Array Int) (w : World) (hH : Holds (Value.int .u64) w blk off d) (hab : a ≤ b) (hb : b ≤ d.size) (hsz : d.size < 4611686018427387904) :
    Calls Tryz.prog 59 #[.slice (some ⟨blk, off, none⟩) d.size cap, .int .i64 a, .int .i64 b] w fun e w' =>
      e = .returned (.tuple #[]) ∧ ∃ n, w' = putRow (Value.int .u64) (Sort.ahead w n) blk off (Sort.insertionSort ltInt d a b) := by
  go_enter Tryz.func59, Tryz.ntmps59
  go_wp2
  go_loopw [6] (fun vi wr => ∃ (i n : Nat) (dk : Array Int), vi = .int .i64 i ∧ a < i ∧ i ≤ b + 1 ∧ dk.size = d.size ∧ wr = putRow (Value.int .u64) (Sort.ahead w n) blk off dk ∧
      insOuter ltInt a b i dk = insOuter ltInt a b (a + 1) d) (fun vi _ => b + 1 - (intOf vi).toNat)
  case atStart => exact ⟨a + 1, 0, d, by go_num, by omega, by omega, rfl, (putRow_self _ _ _ _ _ hH).symm, rfl⟩
  case round =>
    obtain ⟨i, n, dk, rfl, hai, hib, hsk, hwr, hO⟩ := hrel
    have HO : Hid (insOuter ltInt a b i dk = insOuter ltInt a b (a + 1) d) := hO
    clear hO
    go_wp2
    ·
      go_loopw [7] (fun vj wr2 => ∃ (j m : Nat) (dj : Array Int), vj = .int .i64 j ∧ a ≤ j ∧ j ≤ i ∧ dj.size = d.size ∧ wr2 = putRow (Value.int .u64) (Sort.ahead w m) blk off dj ∧
          insInner ltInt a j dj = insInner ltInt a i dk) (fun vj _ => (intOf vj).toNat)
      case atStart => exact ⟨i, n, dk, rfl, by omega, Nat.le_refl _, hsk, rfl, rfl⟩
      case round =>
        obtain ⟨j, m, dj, rfl, haj, hji, hsj, hw2, hI⟩ := hrel
        have hlt : i < b := by assumption
        obtain ⟨G, hG⟩ : ∃ G : Nat → Int, ∀ t, G t = dj[t]! := ⟨fun t => dj[t]!, fun _ => rfl⟩
        have hcw : ∀ t, t < d.size → wr.cell? ⟨blk, off + t, none⟩ = some (.int .u64 (G t)) := fun t ht => by
          rw [hw2, hG]; exact cell?_putRow _ _ _ _ d dj (holds_ahead _ _ _ _ _ _ hH) hsj t (by omega)
        have hfw : ∀ t, t < d.size → wr.frozen? ⟨blk, off + t, none⟩ = false := fun t ht => by
          rw [hw2, frozen?_putRow]; exact ((holds_ahead _ _ m _ _ _ hH) t ht).2
        have HW : Hid (wr = putRow (Value.int .u64) (Sort.ahead w m) blk off dj) := hw2
        have HG : Hid (∀ t, G t = dj[t]!) := hG
        have HI : Hid (insInner ltInt a j dj = insInner ltInt a i dk) := hI
        clear hw2 hG hI hH
        have out : (j ≤ a ∨ ltInt dj[j]! dj[j - 1]! = false) → ∀ q, ∃ i' n' dk', Value.int .i64 ((i : Int) + 1) = .int .i64 (i' : Nat) ∧ a < i' ∧ i' ≤ b + 1 ∧ dk'.size = d.size ∧
            wr.drewN q = putRow (Value.int .u64) (Sort.ahead w n') blk off dk' ∧ insOuter ltInt a b i' dk' = insOuter ltInt a b (a + 1) d := fun hs q =>
          ⟨i + 1, m + q, dj, by go_num, by omega, by omega, hsj, by rw [HW.out]; exact putRow_drewN _ _ _ _ _ _ _,
            by rw [← HO.out, insOuter_go _ _ _ _ _ hlt, ← HI.out, insInner_stop _ _ _ _ hs]⟩
        have OUT : Hid _ := out
        clear out
        go_wp2
        by_cases hja : a < j
        · go_quiet (first | (go_at_call 65; refine Calls.quiet_of_same (So_cmp_Less_int _ _ _)))
          go_wp2
          ·
            have hl : ltInt (G j) (G (j - 1)) = true := by assumption
            go_region
            all_goals go_wp2
            go_roundw
            case rel =>
              refine ⟨j - 1, m + (nq + 1), swp dj j (j - 1), by congr 1; omega, by omega, by omega, by rw [size_swp]; exact hsj, ?_, ?_⟩
              · rw [HW.out, HG.out, HG.out]
                exact swap_worldA _ w m (nq + 1) blk off dj j (j - 1) (by omega) (by omega)
              · rw [← HI.out, insInner_go ltInt a j dj hja (by rw [← HG.out, ← HG.out]; exact hl)]
            case measure => simp [intOf]; omega
          ·
            have hl : ltInt (G j) (G (j - 1)) = false := by assumption
            go_roundw
            case rel => exact OUT.out (Or.inr (by rw [← HG.out, ← HG.out]; exact hl)) nq
            case measure => simp [intOf]; omega
        · go_quiet (first | (go_at_call 65; refine Calls.quiet_of_same (So_cmp_Less_int _ _ _)))
          go_wp2
          go_roundw
          case rel => exact OUT.out (Or.inl (by omega)) nq
          case measure => simp [intOf]; omega
    ·
      have hge : ¬ i < b := by assumption
      go_end0
      exact ⟨rfl, n, by unfold Sort.insertionSort; rw [← HO.out, insOuter_stop _ _ _ _ _ hge]⟩
end Go.Proofs.YtahohmdfllgedaaGreat.Gs
