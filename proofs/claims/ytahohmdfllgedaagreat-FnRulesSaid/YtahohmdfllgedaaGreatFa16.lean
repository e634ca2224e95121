/- The library's sort: slices.siftDownOrdered at uint64. Turned by gen_sort.py from the kit's worked walk at int.
The library's sort: slices.heapSortOrdered at uint64. Turned by gen_sort.py from the kit's worked walk at int.
The library's sort: slices.pdqsortOrdered at uint64. Turned by gen_sort.py from the kit's worked walk at int.
slices.Sort at []uint64: the row holds a permutation of what it held; nothing else that was there turns.
Plain: what the guards say of an instruction's operands; the tail of a function's code.
Plain: what a machine's tables hold lies in its bounds.
impl.Frame: what it answers, and what it knows behind the call of EstablishFrame. -/
import Derived.Test.YtahohmdfllgedaaGreatFa15
import Derived.BigQuiet
import Derived.CellFam
import Derived.BigCall
import Derived.BigGuard
import Derived.Sort.Walk13a
import Derived.Sort.LotD4
import Derived.Sort.LotB
import Derived.Deep.Cut
import Derived.Test.YtahohmdfllgedaaGreatFa13
import Derived.Sort.AssemblyPlain
import Derived.Test.YtahohmdfllgedaaGreatFa7
import Derived.Test.YtahohmdfllgedaaGreatFa9
import Derived.Test.YtahohmdfllgedaaGreatFa12
import Derived.Test.YtahohmdfllgedaaGreatFa8
set_option linter.unusedVariables false
set_option linter.unusedSimpArgs false
namespace Go.Sort
variable {α : Type} [Inhabited α] (lt : α → α → Bool)

theorem sd_end {hi F root : Nat} (d : Array α) (h : hi ≤ 2 * root + 1) : siftDown lt hi F root d = d := by rw [siftDown, dif_pos h]
theorem sd_right_stop {hi F root : Nat} (d : Array α) (h1 : 2 * root + 2 < hi) (h2 : lt d[F + (2 * root + 1)]! d[F + (2 * root + 2)]! = true) (h3 : lt d[F + root]! d[F + (2 * root + 2)]! = false) : siftDown lt hi F root d = d := by
  rw [siftDown, dif_neg (by omega), show F + (2 * root + 1) + 1 = F + (2 * root + 2) by omega, h2, h3]
  simp [show 2 * root + 1 + 1 < hi by omega]
theorem sd_right_go {hi F root : Nat} (d : Array α) (h1 : 2 * root + 2 < hi) (h2 : lt d[F + (2 * root + 1)]! d[F + (2 * root + 2)]! = true) (h3 : lt d[F + root]! d[F + (2 * root + 2)]! = true) :
    siftDown lt hi F root d = siftDown lt hi F (2 * root + 2) (swp d (F + root) (F + (2 * root + 2))) := by
  rw [siftDown, dif_neg (by omega), show F + (2 * root + 1) + 1 = F + (2 * root + 2) by omega, h2, h3]
  simp [show 2 * root + 1 + 1 < hi by omega]
theorem sd_left_stop {hi F root : Nat} (d : Array α) (h0 : 2 * root + 1 < hi) (h1 : 2 * root + 2 < hi → lt d[F + (2 * root + 1)]! d[F + (2 * root + 2)]! = false) (h3 : lt d[F + root]! d[F + (2 * root + 1)]! = false) : siftDown lt hi F root d = d := by
  rw [siftDown, dif_neg (by omega), show F + (2 * root + 1) + 1 = F + (2 * root + 2) by omega, h3]
  by_cases h : 2 * root + 2 < hi
  · simp [h1 h]
  · simp [show ¬ 2 * root + 1 + 1 < hi by omega]
theorem sd_left_go {hi F root : Nat} (d : Array α) (h0 : 2 * root + 1 < hi) (h1 : 2 * root + 2 < hi → lt d[F + (2 * root + 1)]! d[F + (2 * root + 2)]! = false) (h3 : lt d[F + root]! d[F + (2 * root + 1)]! = true) :
    siftDown lt hi F root d = siftDown lt hi F (2 * root + 1) (swp d (F + root) (F + (2 * root + 1))) := by
  rw [siftDown, dif_neg (by omega), show F + (2 * root + 1) + 1 = F + (2 * root + 2) by omega, h3]
  by_cases h : 2 * root + 2 < hi
  · simp [h1 h]
  · simp [show ¬ 2 * root + 1 + 1 < hi by omega]
end Go.Sort

namespace Go.Proofs.YtahohmdfllgedaaGreat.Gs
open Go.Sort Go.RowKit

theorem drewN_world {α : Type} [Inhabited α] (enc : α → Value) {w wr : World} {n blk off : Nat} {dk : Array α} (hwr : wr = putRow enc (Sort.ahead w n) blk off dk) (m : Nat) : wr.drewN m = putRow enc (Sort.ahead w (n + m)) blk off dk := by
  subst hwr
  rw [← ahead_ahead]
  rfl

set_option maxHeartbeats 3200000 in
set_option maxRecDepth 1000000 in
theorem So_siftDown_int (blk off len cap : Nat) (d : Array Int) (hlen : d.size = len) (lo hi first : Nat) (w : World) (hH : Holds encI w blk off d) (hlo : lo ≤ hi) (hb : first + hi ≤ d.size) (hsz : d.size < 4611686018427387904) :
    Calls Tryz.prog 87 #[.slice (some ⟨blk, off, none⟩) len cap, .int .i64 lo, .int .i64 hi, .int .i64 first] w fun e w' => e = .returned (.tuple #[]) ∧ ∃ n, w' = putRow encI (Sort.ahead w n) blk off (siftDown ltInt hi first lo d) := by
  subst hlen
  go_enter Tryz.func87, Tryz.ntmps87
  go_wp2
  go_loopg [8] (hi - lo) (fun k s8 wr => ∃ (root : Nat) (dk : Array Int) (n : Nat), s8 = .int .i64 root ∧ root ≤ hi ∧ hi - root ≤ k ∧ dk.size = d.size ∧ wr = putRow encI (Sort.ahead w n) blk off dk ∧ siftDown ltInt hi first root dk = siftDown ltInt hi first lo d)
  case atStart => exact ⟨lo, d, 0, rfl, hlo, Nat.le_refl _, rfl, (putRow_self encI w blk off d hH).symm, rfl⟩
  case round =>
    obtain ⟨root, dk, n, rfl, hr, hk, hds, hwr, heq⟩ := hrel
    have hHk : Holds encI wr blk off dk := by rw [hwr]; exact holds_putRow encI _ blk off d dk (holds_ahead encI w n blk off d hH) hds
    have hcw : ∀ t, t < d.size → wr.cell? ⟨blk, off + t, none⟩ = some (.int .u64 dk[t]!) := fun t ht => (hHk t (by omega)).1
    have hfw : ∀ t, t < d.size → wr.frozen? ⟨blk, off + t, none⟩ = false := fun t ht => (hHk t (by omega)).2
    have A : Aside (wr = putRow encI (Sort.ahead w n) blk off dk) := hwr
    clear hwr hH hHk
    by_cases h0 : hi ≤ 2 * root + 1
    ·
      have h0z : (hi : Int) ≤ 2 * (root : Int) + 1 := by omega
      go_wp2
      go_end0
      refine ⟨rfl, n, ?_⟩
      rw [A.out, ← heq, sd_end ltInt dk h0]
    ·
      have h0z : ¬ ((hi : Int) ≤ 2 * (root : Int) + 1) := by omega
      by_cases h1 : 2 * root + 2 < hi
      · have h1z : 2 * (root : Int) + 1 + 1 < (hi : Int) := by omega
        go_wp2_with fail
        go_big_quiet (first | (go_at_call 65; refine Calls.quiet_of_same (So_cmp_Less_int _ _ _)))
        go_wp2_with fail
        ·
          have hL : ltInt dk[first + 2 * root + 1]! dk[first + 2 * root + 2]! = true := by assumption
          revert nq; intro nq1
          have hcw2 : ∀ t, t < d.size → (wr.drewN nq1).cell? ⟨blk, off + t, none⟩ = some (.int .u64 dk[t]!) := hcw
          have hfw2 : ∀ t, t < d.size → (wr.drewN nq1).frozen? ⟨blk, off + t, none⟩ = false := hfw
          have A2 : Aside (wr.drewN nq1 = putRow encI (Sort.ahead w (n + nq1)) blk off dk) := drewN_world encI A.out nq1
          clear hcw hfw A
          generalize wr.drewN nq1 = wr2 at hcw2 hfw2 A2 ⊢
          go_big_quiet (first | (go_at_call 65; refine Calls.quiet_of_same (So_cmp_Less_int _ _ _)))
          go_wp2_with fail
          ·
            have hS : ltInt dk[first + root]! dk[first + 2 * root + 2]! = false := by
              have : (!ltInt dk[first + root]! dk[first + 2 * root + 2]!) = true := by assumption
              simpa using this
            (try simp only [Exit.inBlock, Exit.then]); refine bodyPost_ret (results_none rfl _ _ _) rfl ?_
            refine ⟨rfl, n + nq1 + nq, ?_⟩
            rw [drewN_world encI A2.out nq, ← heq, sd_right_stop ltInt dk h1 hL hS]
          ·
            have hG : ltInt dk[first + root]! dk[first + 2 * root + 2]! = true := by
              have : (!ltInt dk[first + root]! dk[first + 2 * root + 2]!) = false := by assumption
              simpa using this
            have hcw3 : ∀ t, t < d.size → (wr2.drewN nq).cell? ⟨blk, off + t, none⟩ = some (.int .u64 dk[t]!) := hcw2
            have hfw3 : ∀ t, t < d.size → (wr2.drewN nq).frozen? ⟨blk, off + t, none⟩ = false := hfw2
            have A3 : Aside (wr2.drewN nq = putRow encI (Sort.ahead w (n + nq1 + nq)) blk off dk) := drewN_world encI A2.out nq
            clear hcw2 hfw2 A2
            generalize wr2.drewN nq = wr3 at hcw3 hfw3 A3 ⊢
            go_region
            go_wp2
            go_roundg (hi - (2 * root + 2))
            case measure => omega
            case rel =>
              refine ⟨2 * root + 2, swp dk (first + root) (first + (2 * root + 1 + 1)), n + nq1 + nq + 1, by simp <;> omega, by omega, Nat.le_refl _, by rw [size_swp]; exact hds, swap_world encI (by omega) (by omega) A3.out rfl rfl, ?_⟩
              rw [← heq, sd_right_go ltInt dk h1 hL hG]
        ·
          have hL : ltInt dk[first + 2 * root + 1]! dk[first + 2 * root + 2]! = false := by assumption
          revert nq; intro nq1
          have hcw2 : ∀ t, t < d.size → (wr.drewN nq1).cell? ⟨blk, off + t, none⟩ = some (.int .u64 dk[t]!) := hcw
          have hfw2 : ∀ t, t < d.size → (wr.drewN nq1).frozen? ⟨blk, off + t, none⟩ = false := hfw
          have A2 : Aside (wr.drewN nq1 = putRow encI (Sort.ahead w (n + nq1)) blk off dk) := drewN_world encI A.out nq1
          clear hcw hfw A
          generalize wr.drewN nq1 = wr2 at hcw2 hfw2 A2 ⊢
          go_big_quiet (first | (go_at_call 65; refine Calls.quiet_of_same (So_cmp_Less_int _ _ _)))
          go_wp2_with fail
          ·
            have hS : ltInt dk[first + root]! dk[first + 2 * root + 1]! = false := by
              have : (!ltInt dk[first + root]! dk[first + 2 * root + 1]!) = true := by assumption
              simpa using this
            (try simp only [Exit.inBlock, Exit.then]); refine bodyPost_ret (results_none rfl _ _ _) rfl ?_
            refine ⟨rfl, n + nq1 + nq, ?_⟩
            rw [drewN_world encI A2.out nq, ← heq, sd_left_stop ltInt dk (by omega) (fun _ => hL) hS]
          ·
            have hG : ltInt dk[first + root]! dk[first + 2 * root + 1]! = true := by
              have : (!ltInt dk[first + root]! dk[first + 2 * root + 1]!) = false := by assumption
              simpa using this
            have hcw3 : ∀ t, t < d.size → (wr2.drewN nq).cell? ⟨blk, off + t, none⟩ = some (.int .u64 dk[t]!) := hcw2
            have hfw3 : ∀ t, t < d.size → (wr2.drewN nq).frozen? ⟨blk, off + t, none⟩ = false := hfw2
            have A3 : Aside (wr2.drewN nq = putRow encI (Sort.ahead w (n + nq1 + nq)) blk off dk) := drewN_world encI A2.out nq
            clear hcw2 hfw2 A2
            generalize wr2.drewN nq = wr3 at hcw3 hfw3 A3 ⊢
            go_region
            go_wp2
            go_roundg (hi - (2 * root + 1))
            case measure => omega
            case rel =>
              refine ⟨2 * root + 1, swp dk (first + root) (first + (2 * root + 1)), n + nq1 + nq + 1, by simp <;> omega, by omega, Nat.le_refl _, by rw [size_swp]; exact hds, swap_world encI (by omega) (by omega) A3.out rfl rfl, ?_⟩
              rw [← heq, sd_left_go ltInt dk (by omega) (fun _ => hL) hG]
      ·
        have h1z : decide (2 * (root : Int) + 1 + 1 < (hi : Int)) = false := decide_eq_false (by omega)
        go_wp2_with fail
        go_big_quiet (first | (go_at_call 65; refine Calls.quiet_of_same (So_cmp_Less_int _ _ _)))
        go_wp2_with fail
        revert nq; intro nq1
        have hcw2 : ∀ t, t < d.size → (wr.drewN nq1).cell? ⟨blk, off + t, none⟩ = some (.int .u64 dk[t]!) := hcw
        have hfw2 : ∀ t, t < d.size → (wr.drewN nq1).frozen? ⟨blk, off + t, none⟩ = false := hfw
        have A2 : Aside (wr.drewN nq1 = putRow encI (Sort.ahead w (n + nq1)) blk off dk) := drewN_world encI A.out nq1
        clear hcw hfw A
        generalize wr.drewN nq1 = wr2 at hcw2 hfw2 A2 ⊢
        go_big_quiet (first | (go_at_call 65; refine Calls.quiet_of_same (So_cmp_Less_int _ _ _)))
        go_wp2_with fail
        ·
          have hS : ltInt dk[first + root]! dk[first + 2 * root + 1]! = false := by
            have : (!ltInt dk[first + root]! dk[first + 2 * root + 1]!) = true := by assumption
            simpa using this
          (try simp only [Exit.inBlock, Exit.then]); refine bodyPost_ret (results_none rfl _ _ _) rfl ?_
          refine ⟨rfl, n + nq1 + nq, ?_⟩
          rw [drewN_world encI A2.out nq, ← heq, sd_left_stop ltInt dk (by omega) (fun h => absurd h h1) hS]
        ·
          have hG : ltInt dk[first + root]! dk[first + 2 * root + 1]! = true := by
            have : (!ltInt dk[first + root]! dk[first + 2 * root + 1]!) = false := by assumption
            simpa using this
          have hcw3 : ∀ t, t < d.size → (wr2.drewN nq).cell? ⟨blk, off + t, none⟩ = some (.int .u64 dk[t]!) := hcw2
          have hfw3 : ∀ t, t < d.size → (wr2.drewN nq).frozen? ⟨blk, off + t, none⟩ = false := hfw2
          have A3 : Aside (wr2.drewN nq = putRow encI (Sort.ahead w (n + nq1 + nq)) blk off dk) := drewN_world encI A2.out nq
          clear hcw2 hfw2 A2
          generalize wr2.drewN nq = wr3 at hcw3 hfw3 A3 ⊢
          go_region
          go_wp2
          go_roundg (hi - (2 * root + 1))
          case measure => omega
          case rel =>
            refine ⟨2 * root + 1, swp dk (first + root) (first + (2 * root + 1)), n + nq1 + nq + 1, by simp <;> omega, by omega, Nat.le_refl _, by rw [size_swp]; exact hds, swap_world encI (by omega) (by omega) A3.out rfl rfl, ?_⟩
            rw [← heq, sd_left_go ltInt dk (by omega) (fun h => absurd h h1) hG]

end Go.Proofs.YtahohmdfllgedaaGreat.Gs

namespace Go.Sort
variable {α : Type} [Inhabited α] (lt : α → α → Bool)

theorem size_siftDown (hi F : Nat) : ∀ (n root : Nat) (d : Array α), hi - root ≤ n → (siftDown lt hi F root d).size = d.size := by
  intro n
  induction n with
  | zero => intro root d h; rw [siftDown, dif_pos (by omega)]
  | succ n ih =>
    intro root d h
    rw [siftDown]
    split
    · rfl
    · split
      · split
        · rfl
        · split
          · rw [ih _ _ (by omega), size_swp]
          · rfl
      · split
        · rfl
        · rw [ih _ _ (by omega), size_swp]
end Go.Sort

namespace Go.Proofs.YtahohmdfllgedaaGreat.Gs
open Go.Sort Go.RowKit

theorem half_start {a b : Nat} (hab : a ≤ b) : ((b : Int) - (a : Int) - 1).tdiv 2 = (((b - a - 1) / 2 + 1 : Nat) : Int) - 1 := by
  by_cases h : a = b
  · subst h
    have : ((a : Int) - (a : Int) - 1) = -1 := by omega
    rw [this]
    simp
  · rw [Int.tdiv_eq_ediv_of_nonneg (by omega)]
    omega

set_option maxHeartbeats 3200000 in
set_option maxRecDepth 1000000 in
theorem So_heapSort_int (blk off len cap : Nat) (d : Array Int) (hlen : d.size = len) (a b : Nat) (w : World) (hH : Holds encI w blk off d) (hab : a ≤ b) (hb : b ≤ d.size) (hsz : d.size < 4611686018427387904) :
    Calls Tryz.prog 60 #[.slice (some ⟨blk, off, none⟩) len cap, .int .i64 a, .int .i64 b] w fun e w' => e = .returned (.tuple #[]) ∧ ∃ n, w' = putRow encI (Sort.ahead w n) blk off (heapSort ltInt d a b) := by
  subst hlen
  have ecast : ((b - a : Nat) : Int) = (b : Int) - (a : Int) := by omega
  go_enter Tryz.func60, Tryz.ntmps60
  go_wp2
  go_loopg [9] ((b - a - 1) / 2 + 1) (fun k s9 wr => s9 = .int .i64 ((k : Int) - 1) ∧ k ≤ (b - a - 1) / 2 + 1 ∧ ∃ (dk : Array Int) (n : Nat), dk.size = d.size ∧ wr = putRow encI (Sort.ahead w n) blk off dk ∧
    heapBuild ltInt (b - a) a k dk = heapBuild ltInt (b - a) a ((b - a - 1) / 2 + 1) d)
  case atStart => exact ⟨by rw [half_start hab], Nat.le_refl _, d, 0, rfl, (putRow_self encI w blk off d hH).symm, rfl⟩
  case round =>
    obtain ⟨rfl, hkk, dk, n, hds, hwr, heq⟩ := hrel
    have hHk : Holds encI wr blk off dk := by rw [hwr]; exact holds_putRow encI _ blk off d dk (holds_ahead encI w n blk off d hH) hds
    have A : Aside (wr = putRow encI (Sort.ahead w n) blk off dk) := hwr
    clear hwr
    cases gk with
    | zero =>
      have hB : dk = heapBuild ltInt (b - a) a ((b - a - 1) / 2 + 1) d := heq
      clear heq hHk hkk
      go_wp2
      go_loopg [10] (b - a) (fun k s10 wr2 => s10 = .int .i64 ((k : Int) - 1) ∧ k ≤ b - a ∧ ∃ (dj : Array Int) (n2 : Nat), dj.size = d.size ∧ wr2 = putRow encI (Sort.ahead w n2) blk off dj ∧ heapPop ltInt a k dj = heapPop ltInt a (b - a) dk)
      case atStart => exact ⟨by rw [ecast], Nat.le_refl _, dk, n, hds, A.out, rfl⟩
      case round =>
        obtain ⟨rfl, hkk, dj, n2, hdj, hwr2, heq2⟩ := hrel
        cases gk with
        | zero =>
          go_wp2
          go_end0
          refine ⟨rfl, n2, ?_⟩
          have e : dj = heapSort ltInt d a b := by rw [heapSort, ← hB, ← heq2]; rfl
          rw [← e]
        | succ k =>
          have hHj : Holds encI wr blk off dj := by rw [hwr2]; exact holds_putRow encI _ blk off d dj (holds_ahead encI w n2 blk off d hH) hdj
          have hcw : ∀ t, t < d.size → wr.cell? ⟨blk, off + t, none⟩ = some (.int .u64 dj[t]!) := fun t ht => (hHj t (by omega)).1
          have hfw : ∀ t, t < d.size → wr.frozen? ⟨blk, off + t, none⟩ = false := fun t ht => (hHj t (by omega)).2
          have A2 : Aside (wr = putRow encI (Sort.ahead w n2) blk off dj) := hwr2
          clear hwr2 hHj
          rcases Nat.eq_zero_or_pos k with hk0 | hkp
          · subst hk0
            go_wp2_with fail
            go_region
            go_wp2_with fail
            rw [swap_world encI (i := a) (j := a) (by omega) (by omega) A2.out rfl rfl]
            refine (So_siftDown_int blk off d.size cap (swp dj a (a)) (by rw [size_swp]; exact hdj) 0 0 a _ (holds_putRow encI _ blk off d _ (holds_ahead encI w (n2 + 1) blk off d hH) (by rw [size_swp]; exact hdj)) (Nat.zero_le _) (by rw [size_swp]; omega) (by rw [size_swp]; omega)).mono ?_
            rintro e w1 ⟨rfl, m, hw1⟩
            go_wp2
            go_roundg 0
            case measure => omega
            case rel =>
              refine ⟨by simp, by omega, siftDown ltInt 0 a 0 (swp dj a (a)), n2 + 1 + m, by rw [size_siftDown ltInt _ _ _ _ _ (Nat.le_refl _), size_swp]; exact hdj, ?_, heq2⟩
              first
                | rw [hw1, putRow_ahead_putRow encI w (n2 + 1) m blk off _ _ (size_siftDown ltInt _ _ _ _ _ (Nat.le_refl _))]
                | rw [putRow_ahead_putRow encI w (n2 + 1) m blk off _ _ (size_siftDown ltInt _ _ _ _ _ (Nat.le_refl _))]
          · skip
            go_wp2_with fail
            go_region
            go_wp2_with fail
            rw [swap_world encI (i := a) (j := a + k) (by omega) (by omega) A2.out rfl rfl]
            refine (So_siftDown_int blk off d.size cap (swp dj a (a + k)) (by rw [size_swp]; exact hdj) 0 k a _ (holds_putRow encI _ blk off d _ (holds_ahead encI w (n2 + 1) blk off d hH) (by rw [size_swp]; exact hdj)) (Nat.zero_le _) (by rw [size_swp]; omega) (by rw [size_swp]; omega)).mono ?_
            rintro e w1 ⟨rfl, m, hw1⟩
            go_wp2
            go_roundg k
            case measure => omega
            case rel =>
              refine ⟨by simp, by omega, siftDown ltInt k a 0 (swp dj a (a + k)), n2 + 1 + m, by rw [size_siftDown ltInt _ _ _ _ _ (Nat.le_refl _), size_swp]; exact hdj, ?_, heq2⟩
              first
                | rw [hw1, putRow_ahead_putRow encI w (n2 + 1) m blk off _ _ (size_siftDown ltInt _ _ _ _ _ (Nat.le_refl _))]
                | rw [putRow_ahead_putRow encI w (n2 + 1) m blk off _ _ (size_siftDown ltInt _ _ _ _ _ (Nat.le_refl _))]
    | succ k =>
      have hcall := So_siftDown_int blk off d.size cap dk hds k (b - a) a wr hHk (by omega) (by omega) (by omega)
      rw [ecast] at hcall
      go_wp2_with (go_at_call 87; refine hcall.mono ?_; rintro e w1 ⟨rfl, m, hw1⟩)
      go_roundg k
      case measure => omega
      case rel =>
        refine ⟨by simp, by omega, siftDown ltInt (b - a) a k dk, n + m, by rw [size_siftDown ltInt _ _ _ _ _ (Nat.le_refl _)]; exact hds, ?_, heq⟩
        rw [A.out, putRow_ahead_putRow encI w n m blk off dk _ (size_siftDown ltInt _ _ _ _ _ (Nat.le_refl _))]

end Go.Proofs.YtahohmdfllgedaaGreat.Gs

namespace Go.Proofs.YtahohmdfllgedaaGreat.Gs
open Go.Sort Go.RowKit

structure Callees13 : Prop where
  ins : ∀ (blk off cap a b : Nat) (d : Array Int) (w : World), Holds encI w blk off d → a ≤ b → b ≤ d.size → d.size < 4611686018427387904 →
    Calls Tryz.prog 59 #[.slice (some ⟨blk, off, none⟩) d.size cap, .int .i64 a, .int .i64 b] w fun e w' => e = .returned (.tuple #[]) ∧ ∃ n, w' = putRow encI (Sort.ahead w n) blk off (insertionSort ltInt d a b)
  brk : ∀ (blk off cap a b : Nat) (d : Array Int) (w : World), Holds encI w blk off d → blk < w.heap.size → a ≤ b → b ≤ d.size → d.size < 4611686018427387904 →
    Calls Tryz.prog 61 #[.slice (some ⟨blk, off, none⟩) d.size cap, .int .i64 a, .int .i64 b] w fun e w' => e = .returned (.tuple #[]) ∧ ∃ n os, w' = grow (putRow encI (Sort.ahead w n) blk off (breakPatterns d a b)) os
  piv : ∀ (blk off cap a b : Nat) (d : Array Int) (w : World), Holds encI w blk off d → blk < w.heap.size → a < b → b ≤ d.size → d.size < 4611686018427387904 →
    Calls Tryz.prog 62 #[.slice (some ⟨blk, off, none⟩) d.size cap, .int .i64 a, .int .i64 b] w fun e w' => e = .returned (.tuple #[.int .i64 (choosePivot ltInt d a b).1, .int .i64 (hintCode (choosePivot ltInt d a b).2)]) ∧ ∃ n os, w' = grow (Sort.ahead w n) os
  par : ∀ (blk off cap a b : Nat) (d : Array Int) (w : World), Holds encI w blk off d → a < b → b ≤ d.size → d.size < 4611686018427387904 →
    Calls Tryz.prog 64 #[.slice (some ⟨blk, off, none⟩) d.size cap, .int .i64 a, .int .i64 b] w fun e w' => e = .returned (.bool (partialInsertionSort ltInt d a b).2) ∧ ∃ n, w' = putRow encI (Sort.ahead w n) blk off (partialInsertionSort ltInt d a b).1
  peq : ∀ (blk off cap a b pivot : Nat) (d : Array Int) (w : World), Holds encI w blk off d → a ≤ pivot → pivot < b → b ≤ d.size → d.size < 4611686018427387904 →
    Calls Tryz.prog 66 #[.slice (some ⟨blk, off, none⟩) d.size cap, .int .i64 a, .int .i64 b, .int .i64 pivot] w fun e w' => e = .returned (.int .i64 (partitionEqual ltInt d a b pivot).1) ∧ ∃ n, w' = putRow encI (Sort.ahead w n) blk off (partitionEqual ltInt d a b pivot).2
  prt : ∀ (blk off cap a b pivot : Nat) (d : Array Int) (w : World), Holds encI w blk off d → a ≤ pivot → pivot < b → b ≤ d.size → d.size < 4611686018427387904 →
    Calls Tryz.prog 67 #[.slice (some ⟨blk, off, none⟩) d.size cap, .int .i64 a, .int .i64 b, .int .i64 pivot] w fun e w' => e = .returned (.tuple #[.int .i64 (partition ltInt d a b pivot).1, .bool (partition ltInt d a b pivot).2.1]) ∧ ∃ n, w' = putRow encI (Sort.ahead w n) blk off (partition ltInt d a b pivot).2.2

structure Plain13 : Prop where
  swo : SWO ltInt
  ins : insertionSort_stmt ltInt
  par : partialInsertionSort_stmt ltInt
  prt : partition_stmt ltInt
  peq : partitionEqual_stmt ltInt
  pdq : pdq_stmt ltInt

theorem hintCode_two {h : Hint} (e : hintCode h = 2) : h = .decreasing := by cases h <;> simp [hintCode] at e ⊢

theorem eighth {x y p q : Nat} (h1 : q ≤ p) (h2 : y ≤ x) : decide (((x : Int) - (y : Int)) / 8 ≤ (p : Int) - (q : Int)) = decide (p - q ≥ (x - y) / 8) :=
  decide_eq_decide.2 ⟨fun h => by omega, fun h => by omega⟩

set_option maxHeartbeats 6400000 in
set_option maxRecDepth 1000000 in
theorem So_pdqsort_int (C : Callees13) (S : Plain13) : ∀ (N blk off cap a b limit : Nat) (d : Array Int) (w : World), b - a < N → Holds encI w blk off d → blk < w.heap.size → a ≤ b → b ≤ d.size → d.size < 4611686018427387904 → limit < 4611686018427387904 → Below ltInt a b d →
    Calls Tryz.prog 46 #[.slice (some ⟨blk, off, none⟩) d.size cap, .int .i64 a, .int .i64 b, .int .i64 limit] w fun e w' => e = .returned (.tuple #[]) ∧ At encI w blk off (pdq ltInt d a b limit true true) w' := by
  intro N
  induction N with
  | zero => intro _ _ _ _ _ _ _ _ h; exact absurd h (Nat.not_lt_zero _)
  | succ N ih =>
    intro blk off cap a b limit d w hN hH hblk hab hb hsz hlimit hBel0
    go_enter Tryz.func46, Tryz.ntmps46
    go_wp2
    go_loopg [1, 2, 3, 8, 9] (b - a) (fun k s1 s2 s3 s8 s9 wr => ∃ (a' b' lim : Nat) (wb wp : Bool) (dk : Array Int), s1 = .int .i64 a' ∧ s2 = .int .i64 b' ∧ s3 = .int .i64 lim ∧ s8 = .bool wb ∧ s9 = .bool wp ∧
      a' ≤ b' ∧ b' ≤ d.size ∧ b' - a' ≤ k ∧ k ≤ b - a ∧ lim ≤ limit ∧ dk.size = d.size ∧ Below ltInt a' b' dk ∧ At encI w blk off dk wr ∧ pdq ltInt dk a' b' lim wb wp = pdq ltInt d a b limit true true)
    case atStart => exact ⟨a, b, limit, true, true, d, rfl, rfl, rfl, rfl, rfl, hab, hb, Nat.le_refl _, Nat.le_refl _, Nat.le_refl _, rfl, hBel0, At.refl hH, rfl⟩
    case round =>
      obtain ⟨a', b', lim, wb, wp, dk, rfl, rfl, rfl, rfl, rfl, hab', hb', hk, hkN, hlim, hds, hBel, hAt, heq⟩ := hrel
      obtain ⟨hHk, hblk'⟩ := hAt.holds hH hds hblk
      have A : Aside (pdq ltInt dk a' b' lim wb wp = pdq ltInt d a b limit true true) := heq
      clear heq
      by_cases h12 : b' - a' ≤ 12
      ·
        have h12z : (b' : Int) - (a' : Int) ≤ 12 := by omega
        have hc := C.ins blk off cap a' b' dk wr hHk hab' (by omega) (by omega)
        rw [hds] at hc
        go_wp2_with (go_at_call 59; refine hc.mono ?_; rintro e w1 ⟨rfl, hw1⟩)
        (try simp only [Exit.inBlock, Exit.then]); refine bodyPost_ret (results_none rfl _ _ _) rfl ?_
        refine ⟨rfl, ?_⟩
        rw [← A.out, pdq_small h12]
        exact hAt.step hblk (S.ins S.swo dk a' b' hab' (by omega)).1.1 hw1
      · have h12z : ¬ ((b' : Int) - (a' : Int) ≤ 12) := by omega
        by_cases hl0 : lim = 0
        ·
          subst hl0
          have hc := So_heapSort_int blk off d.size cap dk hds a' b' wr hHk hab' (by omega) (by omega)
          go_wp2_with (go_at_call 60; refine hc.mono ?_; rintro e w1 ⟨rfl, hw1⟩)
          (try simp only [Exit.inBlock, Exit.then]); refine bodyPost_ret (results_none rfl _ _ _) rfl ?_
          refine ⟨rfl, ?_⟩
          rw [← A.out, pdq_heap h12 rfl]
          exact hAt.step hblk (heapSort_holds S.swo dk a' b' hab' (by omega)).1.1 hw1
        · have hl0z : ¬ ((lim : Int) = 0) := by omega
          obtain ⟨s1, B1, hc1, s2, B2, hpv, s3, B3⟩ := rd_facts (limit := lim) (wb := wb) (wp := wp) S.swo S.par reverseRange_holds (show a' < b' by omega) (show b' ≤ dk.size by omega) hBel
          go_upto_if 35 with fail
          go_cut [3] from 19 (fun s3 wc => s3 = .int .i64 (rd ltInt dk a' b' lim wb wp).lim ∧ At encI w blk off (rd ltInt dk a' b' lim wb wp).d1 wc)
          case first =>
            cases wb
            · have hc := C.brk blk off cap a' b' dk wr hHk hblk' hab' (by omega) (by omega)
              rw [hds] at hc
              go_wp2_with (go_at_call 61; refine hc.mono ?_; rintro e w1 ⟨rfl, hw1⟩)
              go_meet
              case rel =>
                refine ⟨?_, hAt.stepG hblk s1 hw1⟩
                show Value.int .i64 ((lim : Int) - 1) = Value.int .i64 ((lim - 1 : Nat) : Int)
                congr 1
                omega
            · go_wp2_with fail
              go_meet
              case rel => exact ⟨rfl, hAt⟩
          case rest =>
            obtain ⟨rfl, hAt1⟩ := hcut
            obtain ⟨hH1, hblk1⟩ := hAt1.holds hH (s1.trans hds) hblk
            have hc17 : Calls Tryz.prog 62 #[.slice (some ⟨blk, off, none⟩) d.size cap, .int .i64 a', .int .i64 b'] wc fun e w' => e = .returned (.tuple #[.int .i64 (rd ltInt dk a' b' lim wb wp).c.1, .int .i64 (hintCode (rd ltInt dk a' b' lim wb wp).c.2)]) ∧ ∃ n os, w' = grow (Sort.ahead wc n) os := by
              have := C.piv blk off cap a' b' (rd ltInt dk a' b' lim wb wp).d1 wc hH1 hblk1 (by omega) (by omega) (by omega)
              rw [s1, hds] at this
              exact this
            go_upto_if 50 with (go_at_call 62; refine hc17.mono ?_; rintro e w2 ⟨rfl, hw2⟩)
            have hAt2 : At encI w blk off (rd ltInt dk a' b' lim wb wp).d1 w2 := hAt1.same hH (s1.trans hds) hblk hw2
            obtain ⟨hH2, hblk2⟩ := hAt2.holds hH (s1.trans hds) hblk
            go_cut [11, 12] from 19 (fun s11 s12 wc => s11 = .int .i64 (rd ltInt dk a' b' lim wb wp).pivot ∧ s12 = .int .i64 (hintCode (rd ltInt dk a' b' lim wb wp).hint) ∧ At encI w blk off (rd ltInt dk a' b' lim wb wp).d2 wc)
            case first =>
              by_cases hh : (rd ltInt dk a' b' lim wb wp).c.2 = .decreasing
              · have hcode : hintCode (rd ltInt dk a' b' lim wb wp).c.2 = 2 := by rw [hh]; rfl
                obtain ⟨e2, epv, eht⟩ := rd_dec hh
                have hc18 := So_reverseRange_int blk off cap (rd ltInt dk a' b' lim wb wp).d1 a' b' w2 hH2 hab' (by omega) (by omega)
                rw [s1, hds] at hc18
                go_wp2_with (go_at_call 63; refine hc18.mono ?_; rintro e w3 ⟨rfl, hw3⟩)
                go_meet
                case rel =>
                  refine ⟨?_, by rw [eht]; rfl, by rw [e2]; exact hAt2.step hblk (by rw [← e2, s2, s1]) hw3⟩
                  rw [epv]
                  congr 1
                  omega
              · have hcode : ¬ (hintCode (rd ltInt dk a' b' lim wb wp).c.2 = 2) := fun h => hh (hintCode_two h)
                obtain ⟨e2, epv, eht⟩ := rd_not hh
                go_wp2_with fail
                go_meet
                case rel => exact ⟨by rw [epv], by rw [eht], by rw [e2]; exact hAt2⟩
            case rest =>
              obtain ⟨rfl, rfl, hAt3⟩ := hcut
              obtain ⟨hH3, hblk3⟩ := hAt3.holds hH (s2.trans hds) hblk
              go_upto_region 15 with fail
              go_cut [12, 68] from 19 (fun s12 s68 wx => s12 = .int .i64 (hintCode (rd ltInt dk a' b' lim wb wp).hint) ∧ s68 = .bool (wb && wp && decide ((rd ltInt dk a' b' lim wb wp).hint = .increasing)) ∧ wx = wc)
              case first =>
                cases wb <;> cases wp <;> cases hh3 : (rd ltInt dk a' b' lim _ _).hint <;>
                  (have hcode3 := congrArg hintCode hh3
                   simp only [hintCode] at hcode3
                   go_wp2_with fail
                   go_meet
                   exact ⟨by simp [hh3, hintCode], by simp [hh3, hintCode], rfl⟩)
              case rest =>
                obtain ⟨rfl, rfl, rfl⟩ := hcut
                go_upto_if 68 with fail
                go_cut [] from 19 (fun wx => (rd ltInt dk a' b' lim wb wp).pi.2 = false ∧ At encI w blk off (rd ltInt dk a' b' lim wb wp).pi.1 wx)
                case first =>
                  cases h68 : (wb && wp && decide ((rd ltInt dk a' b' lim wb wp).hint = .increasing))
                  · have epi := rd_pi_no h68
                    go_wp2_with fail
                    go_meet
                    case rel => exact ⟨by rw [epi], by rw [epi]; exact hAt3⟩
                  · have epi := rd_pi_yes h68
                    have hc19 := C.par blk off cap a' b' (rd ltInt dk a' b' lim wb wp).d2 wc hH3 (by omega) (by omega) (by omega)
                    rw [s2, hds, ← epi] at hc19
                    go_wp2_with (go_at_call 64; refine hc19.mono ?_; rintro e w4 ⟨rfl, hw4⟩)
                    all_goals first
                      | (have hp2 : (rd ltInt dk a' b' lim wb wp).pi.2 = false := by rw [epi]; assumption
                         go_meet
                         exact ⟨hp2, hAt3.step hblk (by rw [s3, s2]) hw4⟩)
                      | (have hp2 : (rd ltInt dk a' b' lim wb wp).pi.2 = true := by rw [epi]; assumption
                         (try simp only [Exit.inBlock, Exit.then]); refine bodyPost_ret (results_none rfl _ _ _) rfl ?_
                         refine ⟨rfl, ?_⟩
                         rw [← A.out, pdq_done h12 hl0 hp2]
                         exact hAt3.step hblk (by rw [s3, s2]) hw4)
                case rest =>
                  obtain ⟨hp2, hAt5⟩ := hcut
                  obtain ⟨hH5, hblk5⟩ := hAt5.holds hH (s3.trans hds) hblk
                  have hcw : ∀ t, t < d.size → wc.cell? ⟨blk, off + t, none⟩ = some (.int .u64 (rd ltInt dk a' b' lim wb wp).pi.1[t]!) := fun t ht => (hH5 t (by omega)).1
                  have hfw : ∀ t, t < d.size → wc.frozen? ⟨blk, off + t, none⟩ = false := fun t ht => (hH5 t (by omega)).2
                  go_upto_region 17 with fail
                  go_cut [87] from 19 (fun s87 wx => s87 = .bool (decide (a' > 0) && !ltInt (rd ltInt dk a' b' lim wb wp).pi.1[a' - 1]! (rd ltInt dk a' b' lim wb wp).pi.1[(rd ltInt dk a' b' lim wb wp).pivot]!) ∧ At encI w blk off (rd ltInt dk a' b' lim wb wp).pi.1 wx)
                  case first =>
                    rcases Nat.eq_zero_or_pos a' with ha0 | ha0
                    · have ha0z : decide ((a' : Int) > 0) = false := decide_eq_false (by omega)
                      go_big_quiet (first | (go_at_call 65; refine Calls.quiet_of_same (So_cmp_Less_int _ _ _)))
                      go_wp2_with fail
                      go_meet
                      case rel => exact ⟨by simp [ha0], hAt5.ahead nq⟩
                    · have ha0z : (a' : Int) > 0 := by omega
                      go_big_quiet (first | (go_at_call 65; refine Calls.quiet_of_same (So_cmp_Less_int _ _ _)))
                      go_wp2_with fail
                      go_meet
                      case rel => exact ⟨by simp [ha0], hAt5.ahead nq⟩
                  case rest =>
                    obtain ⟨rfl, hAt6⟩ := hcut
                    obtain ⟨hH6, hblk6⟩ := hAt6.holds hH (s3.trans hds) hblk
                    clear hcw hfw
                    cases h87 : (decide (a' > 0) && !ltInt (rd ltInt dk a' b' lim wb wp).pi.1[a' - 1]! (rd ltInt dk a' b' lim wb wp).pi.1[(rd ltInt dk a' b' lim wb wp).pivot]!)
                    ·
                      obtain ⟨mid, ap, d4, hx⟩ : ∃ mid ap d4, partition ltInt (rd ltInt dk a' b' lim wb wp).pi.1 a' b' (rd ltInt dk a' b' lim wb wp).pivot = (mid, ap, d4) := ⟨(partition ltInt (rd ltInt dk a' b' lim wb wp).pi.1 a' b' (rd ltInt dk a' b' lim wb wp).pivot).1, (partition ltInt (rd ltInt dk a' b' lim wb wp).pi.1 a' b' (rd ltInt dk a' b' lim wb wp).pivot).2.1, (partition ltInt (rd ltInt dk a' b' lim wb wp).pi.1 a' b' (rd ltInt dk a' b' lim wb wp).pivot).2.2, rfl⟩
                      obtain ⟨r1, r2, r3, r4, r5, r6, r7⟩ := round_part S.swo S.prt hpv.1 hpv.2 (show b' ≤ (rd ltInt dk a' b' lim wb wp).pi.1.size by omega) B3 hx
                      have hc22 := C.prt blk off cap a' b' (rd ltInt dk a' b' lim wb wp).pivot (rd ltInt dk a' b' lim wb wp).pi.1 wc hH6 hpv.1 hpv.2 (by omega) (by omega)
                      rw [s3, hds, hx] at hc22
                      have X : Aside (partition ltInt (rd ltInt dk a' b' lim wb wp).pi.1 a' b' (rd ltInt dk a' b' lim wb wp).pivot = (mid, ap, d4)) := hx
                      clear hx
                      go_upto_if 113 with (go_at_call 67; refine hc22.mono ?_; rintro e w7 ⟨rfl, hw7⟩)
                      have hx := X.out
                      have hAt7 : At encI w blk off d4 w7 := hAt6.step hblk r3 hw7
                      obtain ⟨hH7, hblk7⟩ := hAt7.holds hH (r3.trans (s3.trans hds)) hblk
                      by_cases h4 : mid - a' < b' - mid
                      · have h4z : (mid : Int) - (a' : Int) < (b' : Int) - (mid : Int) := by omega
                        have hih := ih blk off cap a' mid (rd ltInt dk a' b' lim wb wp).lim d4 w7 (by omega) hH7 hblk7 (by omega) (by omega) (by omega) (Nat.lt_of_le_of_lt (Nat.le_trans rd_lim_le hlim) hlimit) r4
                        rw [r3, s3, hds] at hih
                        obtain ⟨pL, sL⟩ := S.pdq S.swo d4 a' mid (rd ltInt dk a' b' lim wb wp).lim true true (by omega) (by omega) r4
                        go_wp2_with (go_at_call 46; refine hih.mono ?_; rintro e w8 ⟨rfl, hw8⟩)
                        go_roundg (b' - (mid + 1))
                        case measure => omega
                        case rel =>
                          refine ⟨mid + 1, b', (rd ltInt dk a' b' lim wb wp).lim, decide (mid - a' ≥ (b' - a') / 8), ap, pdq ltInt d4 a' mid (rd ltInt dk a' b' lim wb wp).lim true true, by simp, rfl, rfl, ?_, rfl, by omega, by omega, Nat.le_refl _, by omega, Nat.le_trans rd_lim_le hlim, by rw [pL.1, r3, s3, hds], (r6 _ pL sL).1, hAt7.stepG hblk pL.1 hw8, ?_⟩
                          · exact congrArg Value.bool (eighth (by omega) (by omega))
                          · rw [← A.out, pdq_left h12 hl0 hp2 h87 (by rw [hx]; exact ⟨r1, r2⟩) (by rw [hx]; exact h4), hx]
                      · have h4z : ¬ ((mid : Int) - (a' : Int) < (b' : Int) - (mid : Int)) := by omega
                        have hih := ih blk off cap (mid + 1) b' (rd ltInt dk a' b' lim wb wp).lim d4 w7 (by omega) hH7 hblk7 (by omega) (by omega) (by omega) (Nat.lt_of_le_of_lt (Nat.le_trans rd_lim_le hlim) hlimit) r5
                        rw [r3, s3, hds] at hih
                        obtain ⟨pL, sL⟩ := S.pdq S.swo d4 (mid + 1) b' (rd ltInt dk a' b' lim wb wp).lim true true (by omega) (by omega) r5
                        go_wp2_with (go_at_call 46; refine hih.mono ?_; rintro e w8 ⟨rfl, hw8⟩)
                        go_roundg (mid - a')
                        case measure => omega
                        case rel =>
                          refine ⟨a', mid, (rd ltInt dk a' b' lim wb wp).lim, decide (b' - mid ≥ (b' - a') / 8), ap, pdq ltInt d4 (mid + 1) b' (rd ltInt dk a' b' lim wb wp).lim true true, rfl, rfl, rfl, ?_, rfl, by omega, by omega, Nat.le_refl _, by omega, Nat.le_trans rd_lim_le hlim, by rw [pL.1, r3, s3, hds], (r7 _ pL sL).1, hAt7.stepG hblk pL.1 hw8, ?_⟩
                          · exact congrArg Value.bool (eighth (by omega) (by omega))
                          · rw [← A.out, pdq_right h12 hl0 hp2 h87 (by rw [hx]; exact ⟨r1, r2⟩) (by rw [hx]; exact h4), hx]
                    ·
                      have h87' := h87
                      simp only [Bool.and_eq_true, decide_eq_true_eq, Bool.not_eq_true'] at h87'
                      obtain ⟨mid, d4, hx⟩ : ∃ mid d4, partitionEqual ltInt (rd ltInt dk a' b' lim wb wp).pi.1 a' b' (rd ltInt dk a' b' lim wb wp).pivot = (mid, d4) := ⟨(partitionEqual ltInt (rd ltInt dk a' b' lim wb wp).pi.1 a' b' (rd ltInt dk a' b' lim wb wp).pivot).1, (partitionEqual ltInt (rd ltInt dk a' b' lim wb wp).pi.1 a' b' (rd ltInt dk a' b' lim wb wp).pivot).2, rfl⟩
                      obtain ⟨r1, r2, r3, r4, _⟩ := round_eq S.swo S.peq h87'.1 hpv.1 hpv.2 (show b' ≤ (rd ltInt dk a' b' lim wb wp).pi.1.size by omega) B3 h87'.2 hx
                      have hc21 := C.peq blk off cap a' b' (rd ltInt dk a' b' lim wb wp).pivot (rd ltInt dk a' b' lim wb wp).pi.1 wc hH6 hpv.1 hpv.2 (by omega) (by omega)
                      rw [s3, hds, hx] at hc21
                      have X : Aside (partitionEqual ltInt (rd ltInt dk a' b' lim wb wp).pi.1 a' b' (rd ltInt dk a' b' lim wb wp).pivot = (mid, d4)) := hx
                      clear hx
                      go_wp2_with (go_at_call 66; refine hc21.mono ?_; rintro e w7 ⟨rfl, hw7⟩)
                      go_roundg (b' - mid)
                      case measure => omega
                      case rel =>
                        have hx := X.out
                        exact ⟨mid, b', (rd ltInt dk a' b' lim wb wp).lim, wb, wp, d4, rfl, rfl, rfl, rfl, rfl, r2, hb', Nat.le_refl _, by omega, Nat.le_trans rd_lim_le hlim, by rw [r3, s3, hds], r4, hAt6.step hblk r3 hw7, by rw [← A.out, pdq_eq h12 hl0 hp2 h87 (by rw [hx]; exact ⟨r1, r2⟩), hx]⟩

end Go.Proofs.YtahohmdfllgedaaGreat.Gs

namespace Go.Proofs.YtahohmdfllgedaaGreat.Gs
open Go.Sort Go.RowKit

theorem callees13 : Callees13 where
  ins := So_insertionSort_int
  brk := So_breakPatterns_int
  piv := So_choosePivot_int
  par := So_partialInsertionSort_int
  peq := So_partitionEqualOrdered_int
  prt := So_partitionOrdered_int
theorem plain13 : Plain13 where
  swo := swo_ltInt
  ins := insertionSort_holds
  par := partialInsertionSort_holds
  prt := partition_holds _
  peq := partitionEqual_holds _
  pdq := pdq_sorts _
theorem pdqWalkInt : pdqWalk_int := fun blk off cap a b limit d w hH hb hab hbd hsz hl hB =>
  So_pdqsort_int callees13 plain13 (b - a + 1) blk off cap a b limit d w (by omega) hH hb hab hbd hsz hl hB
theorem sort_perm (d : Array Int) : (Sort.sort ltInt d).size = d.size ∧ (Sort.sort ltInt d).toList.Perm d.toList := by
  have h := (pdq_sorts ltInt swo_ltInt d 0 d.size (bitsLen d.size) true true (Nat.zero_le _) (Nat.le_refl _) (Or.inl rfl)).1
  have e : Sort.sort ltInt d = pdq ltInt d 0 d.size (bitsLen d.size) true true := rfl
  rw [e]
  have h1 := h.1
  have h3 := h.2.2
  have x1 : ∀ c : Array Int, c.extract 0 c.size = c := fun c => by simp
  refine ⟨h1, ?_⟩
  rw [x1] at h3
  have := x1 (pdq ltInt d 0 d.size (bitsLen d.size) true true)
  rw [h1] at this
  rwa [this] at h3
/-- slices.Sort at []uint64. -/
theorem SortU_any (blk cap : Nat) (d : Array Int) (w : World) (hH : Holds (Value.int .u64) w blk 0 d) (hblk : blk < w.heap.size) (hsz : d.size < 4611686018427387904) :
    Calls Tryz.prog 27 #[.slice (some ⟨blk, 0, none⟩) d.size cap] w fun e w' => e = .returned (.tuple #[]) ∧ ∃ d' : Array Int, d'.size = d.size ∧ d'.toList.Perm d.toList ∧ Holds (Value.int .u64) w' blk 0 d' ∧ Fr [blk] w w' := by
  refine (So_Sort_int pdqWalkInt blk 0 cap d w hH hblk hsz).mono ?_
  rintro e w' ⟨he, n, os, rfl⟩
  obtain ⟨h1, h2⟩ := sort_perm d
  refine ⟨he, _, h1, h2, ?_, ?_⟩
  · exact holds_grow _ _ os blk 0 _ (by simpa using hblk) (holds_putRow _ _ blk 0 d _ (holds_ahead _ w n blk 0 d hH) h1)
  · refine ⟨rfl, rfl, rfl, ?_, fun k hk hn => ?_⟩
    · show w.heap.size ≤ ((putRow (Value.int .u64) (Sort.ahead w n) blk 0 (Sort.sort ltInt d)).heap ++ os).size
      simp
    · show ((putRow (Value.int .u64) (Sort.ahead w n) blk 0 (Sort.sort ltInt d)).heap ++ os)[k]? = _
      rw [Array.getElem?_append_left (by simpa using hk)]
      show ((Sort.ahead w n).heap.modify blk _)[k]? = _
      rw [Array.getElem?_modify, if_neg (fun h => hn (by simp [h]))]
      rfl
end Go.Proofs.YtahohmdfllgedaaGreat.Gs

namespace Go.Proofs.YtahohmdfllgedaaGreat
open Go.RowKit

theorem crb_b {op a b d : Int} {dt : List UInt8} (h : crB ⟨op, a, b, dt⟩ = true) (h1 : -64 ≤ d) (h2 : d ≤ 64) (ho : op = 128 ∨ op = 5 ∨ op = 17 ∨ op = 20 ∨ op = 21 ∨ op = 18) : IntKind.i64.wrap (b * d) = b * d := by
  rcases ho with rfl | rfl | rfl | rfl | rfl | rfl <;> (simp [crB, callRightB, shape, rightB] at h; exact mul_in (by omega) (by omega) h1 h2)
theorem crb_a {op a b d : Int} {dt : List UInt8} (h : crB ⟨op, a, b, dt⟩ = true) (h1 : -64 ≤ d) (h2 : d ≤ 64) (ho : op = 19) : IntKind.i64.wrap (a * d) = a * d := by
  subst ho; simp [crB, callRightB, shape, rightB] at h; exact mul_in (by omega) (by omega) h1 h2
theorem crb_move {op a b : Int} {dt : List UInt8} (h : crB ⟨op, a, b, dt⟩ = true) (hm : movesB op = true) (h1 : ¬ op = 1) : 0 ≤ a ∧ a < 4294967296 := by
  simp only [movesB, decide_eq_true_eq] at hm
  have : op = 64 ∨ op = 2 ∨ op = 3 ∨ op = 4 := by omega
  rcases this with rfl | rfl | rfl | rfl <;> (simp [crB, callRightB, shape, rightB] at h; omega)
theorem next_u64 {code loc : Nat} {a : Int} (h1 : loc ≤ 4398046511104) (h2 : code ≤ 64) (h3 : 0 ≤ a ∧ a < 4294967296) : IntKind.u64.wrap ((loc : Int) + IntKind.u64.wrap ((code : Int) * IntKind.u64.wrap a)) = ((loc + code * a.toNat : Nat) : Int) := by
  obtain ⟨n, rfl⟩ := Int.eq_ofNat_of_zero_le h3.1
  have hn : n < 4294967296 := by omega
  have := lt_mul h1 h2 hn
  have e1 : IntKind.u64.wrap (n : Int) = (n : Int) := by rw [IntKind.wrap_u64]; exact Int.emod_eq_of_lt (by omega) (by omega)
  have e2 : (code : Int) * (n : Int) = ((code * n : Nat) : Int) := by push_cast; rfl
  have e3 : IntKind.u64.wrap ((code * n : Nat) : Int) = ((code * n : Nat) : Int) := by rw [IntKind.wrap_u64]; exact Int.emod_eq_of_lt (by omega) (by omega)
  rw [e1, e2, e3, IntKind.wrap_u64, Int.toNat_natCast]
  generalize code * n = m at *
  omega

def firstRg : Code → Option Nat
  | .region n _ _ => some n
  | .seq a _ => firstRg a
  | .block _ c => firstRg c
  | .loop c => firstRg c
  | .scope c => firstRg c
  | _ => none
def tailAt (n : Nat) : Code → Option Code
  | .seq a b => if firstRg a = some n then some (.seq a b) else tailAt n b
  | _ => none
def headOf : Code → Code
  | .seq a _ => a
  | c => c
def restOf : Code → Code
  | .seq _ b => b
  | c => c
theorem use_tail {P : Program} {K : Act → World → Prop} {c : Code} {Q : Exit → Act → World → Prop} {a : Act} {w : World} (h : ∀ a w, Code.wp P c Q a w → K a w) (ht : Code.wp P c Q a w) : K a w := h _ _ ht
end Go.Proofs.YtahohmdfllgedaaGreat

namespace Go.Proofs.YtahohmdfllgedaaGreat
open Go.RowKit

def ROk (r : LRule) : Prop := (0 ≤ r.kind ∧ r.kind ≤ 9) ∧ (0 ≤ r.reg ∧ r.reg < 1073741824) ∧ r.expr.length ≤ 60
def TOk (t : LTab) : Prop := ROk t.cfa ∧ ∀ k r, t.rules k = some r → (0 ≤ k ∧ k < 65536) ∧ ROk r
def SOk (s : LSta) : Prop := TOk s.1 ∧ ∀ t ∈ s.2, TOk t
theorem TOk.put {t : LTab} (h : TOk t) {k : Int} {r : LRule} (hk : 0 ≤ k ∧ k < 65536) (hr : ROk r) : TOk (t.put k r) := by
  refine ⟨h.1, fun j q hq => ?_⟩
  simp only [LTab.put, lput] at hq
  split at hq
  · rename_i e; obtain rfl := Option.some.inj hq; subst e; exact ⟨hk, hr⟩
  · exact h.2 j q hq
theorem tab0_ok : TOk tab0 := by
  refine ⟨?_, fun k r h => by cases h⟩
  simp [ROk, tab0, rul0]
theorem popT_ok {s s' : LSta} (h : SOk s) (e : popT s = some s') : SOk s' := by
  unfold popT at e
  split at e
  · cases e
  · rename_i u hu
    obtain rfl := Option.some.inj e
    exact ⟨h.2 u (List.mem_of_getLast? hu), fun t ht => h.2 t (List.dropLast_subset _ ht)⟩
theorem iCall_ok {off : Int} {x : LCall} {s s' : LSta} (hx : crB x = true) (h : SOk s) (e : iCall off x s = some s') : SOk s' := by
  obtain ⟨op, a, b, dt⟩ := x
  have hd : dt.length ≤ 60 := by simp only [crB, callRightB, Bool.and_eq_true, decide_eq_true_eq] at hx; exact hx.1.2
  have hput : ∀ {k : Int} {r : LRule} {q : LSta}, some ((s.1.put k r, s.2) : LSta) = some q → (0 ≤ k ∧ k < 65536) → ROk r → SOk q := fun e h1 h2 => by
    obtain rfl := Option.some.inj e; exact ⟨h.1.put h1 h2, h.2⟩
  have hcfa : ∀ {r : LRule} {q : LSta}, some ((s.1.setCfa r, s.2) : LSta) = some q → ROk r → SOk q := fun e h2 => by
    obtain rfl := Option.some.inj e; exact ⟨⟨h2, h.1.2⟩, h.2⟩
  have hc := h.1.1
  obtain ⟨c1, c2, c3⟩ := hc
  unfold iCall at e
  simp only at e
  rcases ite_or e with ⟨ho, e⟩ | e
  · have hk : 0 ≤ a ∧ a < 65536 := by rcases ho with rfl | rfl | rfl <;> (simp [crB, callRightB, shape, rightB] at hx; omega)
    exact hput e hk ⟨by constructor <;> (simp only; omega), by constructor <;> (simp only; omega), by simp⟩
  rcases ite_or e with ⟨rfl, e⟩ | e
  · exact hput e (by simp [crB, callRightB, shape, rightB] at hx; omega) ⟨by constructor <;> (simp only; omega), by constructor <;> (simp only; omega), by simp⟩
  rcases ite_or e with ⟨ho, e⟩ | e
  · have hk : 0 ≤ a ∧ a < 65536 := by rcases ho with rfl | rfl | rfl <;> (simp [crB, callRightB, shape, rightB] at hx; omega)
    exact hput e hk ⟨by constructor <;> (simp only; omega), by constructor <;> (simp only; omega), by simp⟩
  rcases ite_or e with ⟨rfl, e⟩ | e
  · exact hput e (by simp [crB, callRightB, shape, rightB] at hx; omega) ⟨by constructor <;> (simp only; omega), by constructor <;> (simp only; omega), by simp⟩
  rcases ite_or e with ⟨rfl, e⟩ | e
  · exact hput e (by simp [crB, callRightB, shape, rightB] at hx; omega) ⟨by constructor <;> (simp only; omega), by simp [crB, callRightB, shape, rightB] at hx; simp only; omega, by simp⟩
  rcases ite_or e with ⟨rfl, e⟩ | e
  · exact hput e (by simp [crB, callRightB, shape, rightB] at hx; omega) ⟨by constructor <;> (simp only; omega), by constructor <;> (simp only; omega), hd⟩
  rcases ite_or e with ⟨rfl, e⟩ | e
  · exact hput e (by simp [crB, callRightB, shape, rightB] at hx; omega) ⟨by constructor <;> (simp only; omega), by constructor <;> (simp only; omega), hd⟩
  rcases ite_or e with ⟨rfl, e⟩ | e
  · obtain rfl := Option.some.inj e
    refine ⟨h.1, fun t ht => ?_⟩
    rcases List.mem_append.1 ht with ht | ht
    · exact h.2 t ht
    · simp at ht; subst ht; exact h.1
  rcases ite_or e with ⟨rfl, e⟩ | e
  · exact popT_ok h e
  rcases ite_or e with ⟨rfl, e⟩ | e
  · exact hcfa e ⟨by constructor <;> (simp only; omega), by simp [crB, callRightB, shape, rightB] at hx; simp only; omega, c3⟩
  rcases ite_or e with ⟨rfl, e⟩ | e
  · exact hcfa e ⟨by constructor <;> (simp only; omega), by simp [crB, callRightB, shape, rightB] at hx; simp only; omega, c3⟩
  rcases ite_or e with ⟨rfl, e⟩ | e
  · exact hcfa e ⟨c1, by simp [crB, callRightB, shape, rightB] at hx; simp only; omega, c3⟩
  rcases ite_or e with ⟨rfl, e⟩ | e
  · exact hcfa e ⟨c1, c2, c3⟩
  rcases ite_or e with ⟨rfl, e⟩ | e
  · exact hcfa e ⟨c1, c2, c3⟩
  rcases ite_or e with ⟨rfl, e⟩ | e
  · exact hcfa e ⟨by constructor <;> (simp only; omega), c2, hd⟩
  · obtain rfl := Option.some.inj e; exact h
theorem iRun_ok {off : Int} : ∀ {l : List LCall} {s s' : LSta}, (∀ x ∈ l, crB x = true) → SOk s → iRun off l s = some s' → SOk s' := by
  intro l
  induction l with
  | nil => intro s s' _ h e; obtain rfl := Option.some.inj e; exact h
  | cons x xs ih =>
    intro s s' hx h e
    obtain ⟨s1, h1, h2⟩ := Option.bind_eq_some_iff.1 e
    exact ih (fun y hy => hx y (by simp [hy])) (iCall_ok (hx x (by simp)) h h1) h2
theorem iFde_ok {code : Nat} {off : Int} {pc : Nat} : ∀ {l : List LCall} {loc : Nat} {s s' : LSta}, (∀ x ∈ l, crB x = true) → SOk s → iFde code off pc loc l s = some s' → SOk s' := by
  intro l
  induction l with
  | nil => intro loc s s' _ h e; obtain rfl := Option.some.inj e; exact h
  | cons x xs ih =>
    intro loc s s' hx h e
    unfold iFde at e
    rcases ite_or e with ⟨-, e⟩ | e
    · obtain rfl := Option.some.inj e; exact h
    rcases ite_or e with ⟨-, e⟩ | e
    · exact ih (fun y hy => hx y (by simp [hy])) h e
    · obtain ⟨s1, h1, h2⟩ := Option.bind_eq_some_iff.1 e
      exact ih (fun y hy => hx y (by simp [hy])) (iCall_ok (hx x (by simp)) h h1) h2
theorem iRules_ok {c : LCommon} {f : LFrame} {pc : Nat} {t : LTab} (hc : ∀ x ∈ c.calls, crB x = true) (hf : ∀ x ∈ f.calls, crB x = true) (e : iRules c f pc = some t) : TOk t := by
  obtain ⟨s, hs, rfl⟩ := Option.map_eq_some_iff.1 e
  obtain ⟨s1, h1, h2⟩ := Option.bind_eq_some_iff.1 hs
  exact (iFde_ok hf (iRun_ok hc ⟨tab0_ok, fun t ht => by cases ht⟩ h1) h2).1
end Go.Proofs.YtahohmdfllgedaaGreat

namespace Go.Proofs.YtahohmdfllgedaaGreat
open Go.RowKit

/-- A rule that has been handed out. -/
def IRulS (w : World) (r : LRule) (v : Value) : Prop := ∃ ev, v = .agg #[.int .i64 (kindI r.kind), .int .i64 r.reg, .int .i64 r.n, ev] ∧ Sl w ev (vbs r.expr)
abbrev ecell (k : Int) (r : LRule) (ev : Value) : List Value := [.int .i64 k, .int .i64 (kindI r.kind), .int .i64 r.reg, .int .i64 r.n, ev]
/-- A register with its rule, handed out. -/
def REnt (w : World) (vs : List Value) (q : Int × LRule) : Prop := ∃ ev, vs = ecell q.1 q.2 ev ∧ Sl w ev (vbs q.2.expr)
/-- Each register that has a rule, once, with its rule. -/
def RowsOf (t : LTab) (l : List (Int × LRule)) : Prop := (l.map (·.1)).Nodup ∧ (∀ q ∈ l, t.rules q.1 = some q.2) ∧ ∀ k r, t.rules k = some r → k ∈ l.map (·.1)
def zeroI : Value := .tuple #[.int .u64 0, .int .u64 0, .agg #[.int .i64 0, .int .i64 0, .int .i64 0, .slice none 0 0], .slice none 0 0, .int .i64 0, .bool false]
/-- What impl.Frame answers of the frame x, whose table is o. -/
def IFr1 (w' : World) (c : LCommon) (x : LFrame) (o : Option LTab) (e : Ending) : Prop :=
  match o with
  | none => e = .returned zeroI
  | some t => ∃ cv rv l, e = .returned (.tuple #[.int .u64 (x.start : Int), .int .u64 ((x.start + x.size : Nat) : Int), cv, rv, .int .i64 c.ret, .bool true]) ∧ IRulS w' t.cfa cv ∧ RSl 5 (REnt w') w' rv l ∧ RowsOf t l

abbrev EQ := Int × LRule × Value
def ecells (qs : List EQ) : List Value := qs.flatMap fun q => ecell q.1 q.2.1 q.2.2
theorem ecells_snoc (qs : List EQ) (k : Int) (r : LRule) (v : Value) : ecells (qs ++ [(k, r, v)]) = ecells qs ++ ecell k r v := by simp [ecells]
theorem ecells_get (qs : List EQ) : ∀ (i j : Nat) (h : i < qs.length), j < 5 → (ecells qs)[i * 5 + j]? = (ecell qs[i].1 qs[i].2.1 qs[i].2.2)[j]? := by
  induction qs with
  | nil => intro i j h; simp at h
  | cons q qs ih =>
    intro i j h hj
    have e : ecells (q :: qs) = ecell q.1 q.2.1 q.2.2 ++ ecells qs := by simp [ecells]
    rw [e]
    cases i with
    | zero => rw [Nat.zero_mul, Nat.zero_add, List.getElem?_append_left (by simpa using hj)]; rfl
    | succ i =>
      rw [List.getElem?_append_right (by simp; omega)]
      have := ih i j (by simpa using h) hj
      have e2 : (i + 1) * 5 + j - (ecell q.1 q.2.1 q.2.2).length = i * 5 + j := by simp; omega
      rw [e2, this]; rfl
theorem sliceEn : SliceT Tryz.prog 30 48 (.agg #[.int .i64 0, .int .i64 0, .int .i64 0, .int .i64 0, .slice none 0 0]) 5 56 := ⟨Tryz.underlying30, by kernel_rfl, rfl, by decide⟩

/-- The rows that have been built, of the registers ks: v the slice of them, in the result's block. -/
structure EnR (wE : World) (p3 : Nat) (t : LTab) (ks : List Int) (wr : World) : Prop where
  fr : Fr [p3] wE wr
  ex : ∃ v qs, wr.heap[p3]? = some (.cells #[v] 30 (0, 0)) ∧ wr.ownsRow wE.heap.size 48 5 v qs.length (ecells qs) ∧ qs.map (·.1) = ks ∧
    ∀ q ∈ qs, t.rules q.1 = some q.2.1 ∧ wr.ownsRow wE.heap.size 5 1 q.2.2 q.2.1.expr.length (vbs q.2.1.expr)
theorem en_rows {w : World} {base : Nat} {v : Value} {t : LTab} {qs : List EQ} (b : w.ownsRow base 48 5 v qs.length (ecells qs)) (h : ∀ q ∈ qs, t.rules q.1 = some q.2.1 ∧ w.ownsRow base 5 1 q.2.2 q.2.1.expr.length (vbs q.2.1.expr)) :
    RSl 5 (REnt w) w v (qs.map fun q => (q.1, q.2.1)) := by
  rcases b.2 with ⟨hv, h0⟩ | ⟨g, cap, cur, hv, hb, hg, hnc, hcm, hcs, htake⟩
  · exact .inl ⟨hv, by rw [List.eq_nil_of_length_eq_zero h0]; rfl⟩
  · refine .inr ⟨⟨g, 0, none⟩, cap, by rw [hv, List.length_map], by rw [List.length_map]; exact hnc, hcm, fun i hi => ?_⟩
    have hi2 : i < qs.length := by simpa using hi
    refine ⟨ecell qs[i].1 qs[i].2.1 qs[i].2.2, rfl, ⟨qs[i].2.2, by rw [List.getElem_map], ?_⟩, fun j u hu => ?_⟩
    · rw [List.getElem_map]; exact own_sl (h _ (List.getElem_mem hi2)).2
    · have hj : j < 5 := by
        rcases Nat.lt_or_ge j 5 with h | h
        · exact h
        · rw [List.getElem?_eq_none (by simpa using h)] at hu; cases hu
      have hx := ecells_get qs i j hi2 hj
      rw [hu] at hx
      exact b.cells (g := g) (by rw [hv]; rfl) (i * 5 + j) u hx
theorem rows_of {t : LTab} {qs : List EQ} (hn : (qs.map (·.1)).Nodup) (h : ∀ q ∈ qs, t.rules q.1 = some q.2.1) (ha : ∀ k r, t.rules k = some r → k ∈ qs.map (·.1)) : RowsOf t (qs.map fun q => (q.1, q.2.1)) := by
  have e : (qs.map fun q => (q.1, q.2.1)).map (·.1) = qs.map (·.1) := by rw [List.map_map]; rfl
  refine ⟨by rw [e]; exact hn, fun q hq => ?_, fun k r hk => by rw [e]; exact ha k r hk⟩
  obtain ⟨y, hy, rfl⟩ := List.mem_map.1 hq
  exact h y hy

/-- What is known behind the call of EstablishFrame, in that world. -/
structure FrA (w : World) (dv : Value) (fd fb mb ib : Nat) (ord : Value) (K : FK) (loc : Nat) (ev xv : Value) (c : LCommon) (x : LFrame) (t : LTab) (p0 p1 p2 p3 p4 p5 : Nat) : Prop where
  zb : ZB w p0 p1 p2 p3 p4 p5
  fc : w.heap[fb]? = some (.cells (fcells K loc t.cfa ev mb) 87 (0, 0))
  mr : MapR w xv mb t.rules
  ex : ExV w xv ev t.cfa.expr
  xo : ∀ g, xv.ownBlock = some g → ∃ cur, w.heap[g]? = some (.cells cur 5 (0, 0))
  fd : FdeAt w dv fd ordLE c x
  dvo : ∀ g, dv.ownBlock = some g → ∃ cur, w.heap[g]? = some (.cells cur 5 (0, 0))
  rt : K.ret = c.ret.toNat
  ok : TOk t
  rc : rcB c = true
  fr : frB x = true
end Go.Proofs.YtahohmdfllgedaaGreat
