/- spec.Little: a number in so many bytes, the least first. -/
import Derived.Test.YtahohmdfllgedaaLebW
import Derived.Test.YtahohmdfllgedaaApp
namespace Go.Proofs.Ytahohmdfllgedaa
open Go.RowKit

def leL (n : Nat) : Nat → List UInt8
  | 0 => []
  | k + 1 => UInt8.ofNat (n % 256) :: leL (n / 256) k

theorem leL_length (k : Nat) : ∀ n, (leL n k).length = k := by
  induction k with
  | zero => intro n; rfl
  | succ k ih => intro n; simp [leL, ih]

theorem leL_take (k : Nat) : ∀ m, leL m (k + 1) = leL m k ++ [UInt8.ofNat (m / 256 ^ k % 256)] := by
  induction k with
  | zero => intro m; simp [leL]
  | succ k ih =>
    intro m
    rw [leL, ih (m / 256)]
    rw [show leL m (k + 1) = UInt8.ofNat (m % 256) :: leL (m / 256) k from rfl]
    rw [Nat.div_div_eq_div_mul, Nat.pow_succ, Nat.mul_comm 256]
    rfl

set_option maxRecDepth 100000 in
set_option maxHeartbeats 1000000 in
theorem Little_any (n k : Nat) (hn : n < 18446744073709551616) (hk : k ≤ 8) (w : World) :
    Calls Try.prog 48 #[.int .u64 (n : Int), .int .i64 (k : Int)] w (Made (leL n k) w) := by
  have Hn := Lib.hid hn
  clear hn
  go_enter Try.func48, Try.ntmps48
  go_wp2_with fail
  go_loopw [0, 5, 7] (fun x v i wr => ∃ j : Nat, ∃ a c, j ≤ k ∧ i = .int .i64 (j : Int) ∧ x = .int .u64 ((n / 256 ^ j : Nat) : Int) ∧ v = .slice a j c ∧
      wr.ownsRow w.heap.size 5 1 (.slice a j c) j (vbs (leL n j)) ∧ Fr [] w wr) (fun _ _ i _ => k - (intOf i).toNat)
  case atStart => exact ⟨0, none, 0, Nat.zero_le _, rfl, by simp, rfl, World.ownsRow_nil _ _ _ _, Fr.refl _ _⟩
  case round =>
    obtain ⟨j, a, c, hj, rfl, rfl, rfl, hown, hfr⟩ := hrel
    have Hown := Lib.hid hown
    have Hfr := Lib.hid hfr
    clear hown hfr
    by_cases hlt : j < k
    case neg =>
      obtain rfl : j = k := by omega
      clear hlt
      go_wp2
      go_ret
      exact ⟨a, c, by rw [leL_length]; rfl, by rw [leL_length]; exact Hown.out, Hfr.out⟩
    case pos =>
      obtain ⟨m, hm⟩ : ∃ m, m = n / 256 ^ j := ⟨_, rfl⟩
      have hm2 : m < 18446744073709551616 := by rw [hm]; exact Nat.lt_of_le_of_lt (Nat.div_le_self _ _) Hn.out
      have hb : (m : Int) % 256 = (((UInt8.ofNat (m % 256)).toNat : Nat) : Int) := by
        rw [ofNat_toNat (by omega)]; omega
      generalize hy : UInt8.ofNat (m % 256) = y at hb
      rw [← hm]
      have Hm := Lib.hid hm
      have Hm2 := Lib.hid hm2
      have Hy := Lib.hid hy
      clear hm hy hm2
      go_wp2_with (at_builtin; go_must (refine wpList_app sliceB _ rfl _ _ rfl w.heap.size _ j (vbs (leL n j)) rfl (Hown.out.alloc _) (some ⟨wr.heap.size, 0, none⟩) 1 1 [vb y] rfl rfl (fun h => by cases h) (news_one rfl _ _) (vbs_one [_]) ?_ (by decide) ?_ ?_))
      · omega
      · have := Hfr.out.size; simp; omega
      intro a' c' w1 ho1 hf1 hg1
      have Ho1 := Lib.hid ho1
      have Hf1 := Lib.hid hf1
      clear ho1 hf1 hg1
      go_wp2
      refine ⟨⟨j + 1, a', c', by omega, by go_num, ?_, rfl, ?_, ?_⟩, ?_⟩
      · rw [Nat.pow_succ, ← Nat.div_div_eq_div_mul, ← Hm.out]; simp [Int.natCast_ediv]
      · rw [leL_take, ← Hm.out, Hy.out]; simpa using Ho1.out
      · exact (Hfr.out.alloc _).app Hown.out (Nat.le_refl _) Hf1.out
      · simp [intOf]; omega
end Go.Proofs.Ytahohmdfllgedaa
