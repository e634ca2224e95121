/- The signed numbers of variable length as plain functions on lists of bytes. No program in sight. -/
import Derived.Test.YtahohmdfllgedaaLeb
namespace Go.Proofs.Ytahohmdfllgedaa
open Go.RowKit

def sleb (n : Int) : List UInt8 :=
  if h : -64 ≤ n ∧ n ≤ 63 then [UInt8.ofNat (n % 128).toNat] else UInt8.ofNat ((n % 128).toNat + 128) :: sleb (n / 128)
termination_by n.natAbs
decreasing_by omega

theorem sleb_small {n : Int} (h : -64 ≤ n ∧ n ≤ 63) : sleb n = [UInt8.ofNat (n % 128).toNat] := by rw [sleb, dif_pos h]
theorem sleb_big {n : Int} (h : ¬ (-64 ≤ n ∧ n ≤ 63)) : sleb n = UInt8.ofNat ((n % 128).toNat + 128) :: sleb (n / 128) := by rw [sleb, dif_neg h]

theorem sleb_pos (n : Int) : 0 < (sleb n).length := by
  by_cases h : -64 ≤ n ∧ n ≤ 63
  · rw [sleb_small h]; simp
  · rw [sleb_big h]; simp

theorem sleb_le (k : Nat) : ∀ n : Int, -(64 * 128 ^ k : Nat) ≤ n → n < (64 * 128 ^ k : Nat) → (sleb n).length ≤ k + 1 := by
  induction k with
  | zero => intro n h1 h2; rw [sleb_small (by simp at h1 h2; omega)]; simp
  | succ k ih =>
    intro n h1 h2
    by_cases h : -64 ≤ n ∧ n ≤ 63
    · rw [sleb_small h]; simp
    · rw [sleb_big h]
      have e : 64 * 128 ^ (k + 1) = 128 * (64 * 128 ^ k) := by rw [Nat.pow_succ]; rw [← Nat.mul_assoc, ← Nat.mul_assoc, Nat.mul_comm (64 * 128 ^ k) 128, Nat.mul_assoc]
      rw [e] at h1 h2
      have := ih (n / 128) (by omega) (by omega)
      simp; omega

theorem sleb_le10 {n : Int} (h1 : -9223372036854775808 ≤ n) (h2 : n ≤ 9223372036854775807) : (sleb n).length ≤ 10 := sleb_le 9 n (by omega) (by omega)

theorem sleb_ended (n : Int) : Ended (sleb n) := by
  generalize hm : n.natAbs = m
  induction m using Nat.strongRecOn generalizing n with
  | _ m ih =>
    by_cases h : -64 ≤ n ∧ n ≤ 63
    · rw [sleb_small h]; show (UInt8.ofNat _).toNat < 128; rw [ofNat_toNat (by omega)]; omega
    · rw [sleb_big h]
      exact Ended_cons (by rw [ofNat_toNat (by omega)]; omega) (ih (n / 128).natAbs (by omega) _ rfl)

/-- Its value with a sign, without a bound: the last byte is x. -/
def sval (l : List UInt8) : Int := (uval l : Int) - (if 64 ≤ (l.getD (l.length - 1) 0).toNat % 128 then ((128 ^ l.length : Nat) : Int) else 0)

theorem sval_snoc (i : List UInt8) (x : UInt8) : sval (i ++ [x]) = (uval i : Int) + ((128 ^ i.length : Nat) : Int) * ((x.toNat % 128 : Nat) - (if 64 ≤ x.toNat % 128 then 128 else 0) : Int) := by
  unfold sval
  rw [getD_last, uval_append]
  simp only [uval, Nat.mul_zero, Nat.add_zero, List.length_append, List.length_cons, List.length_nil]
  rw [Nat.pow_succ]
  split
  · rw [Int.mul_sub]; push_cast; omega
  · rw [Int.sub_zero, Int.sub_zero]; push_cast; rfl

theorem sval_cons (y : UInt8) (l : List UInt8) (hl : l ≠ []) : sval (y :: l) = ((y.toNat % 128 : Nat) : Int) + 128 * sval l := by
  obtain ⟨i, x, rfl⟩ := exists_snoc hl
  rw [← List.cons_append, sval_snoc, sval_snoc]
  simp only [uval, List.length_cons, Nat.pow_succ]
  rw [Int.mul_add]
  push_cast
  rw [show ((128 : Int) ^ i.length * 128) = 128 * 128 ^ i.length by rw [Int.mul_comm], Int.mul_assoc]
  omega

theorem sval_sleb (n : Int) : sval (sleb n) = n := by
  generalize hm : n.natAbs = m
  induction m using Nat.strongRecOn generalizing n with
  | _ m ih =>
    by_cases h : -64 ≤ n ∧ n ≤ 63
    · rw [sleb_small h]
      have := sval_snoc [] (UInt8.ofNat (n % 128).toNat)
      rw [List.nil_append] at this
      rw [this, ofNat_toNat (by omega)]
      simp only [uval, List.length_nil, Nat.pow_zero]
      split <;> omega
    · rw [sleb_big h, sval_cons _ _ (Ended_ne (sleb_ended _)), ih (n / 128).natAbs (by omega) _ rfl, ofNat_toNat (by omega)]
      omega

/-- What fills a number with a sign. -/
def fillOf (l : List UInt8) : UInt8 := if 64 ≤ (l.getD (l.length - 1) 0).toNat % 128 then 127 else 0

theorem padN_sval (fill : UInt8) (k : Nat) : ∀ l, Ended l → fill = fillOf l → sval (padN fill k l) = sval l := by
  induction k with
  | zero => intro l _ _; rfl
  | succ k ih =>
    intro l h hf
    obtain ⟨i, x, rfl⟩ := exists_snoc (Ended_ne h)
    have h' := Ended_append.1 h
    have hfill : fill.toNat < 128 := by rw [hf]; unfold fillOf; split <;> decide
    have hf2 : fillOf (i ++ [hi x] ++ [fill]) = fill := by
      unfold fillOf at hf ⊢
      rw [getD_last] at hf ⊢
      subst hf
      split <;> decide
    rw [padN_snoc, ih _ _ hf2.symm]
    · rw [sval_snoc, sval_snoc, uval_append]
      unfold fillOf at hf
      rw [getD_last] at hf
      simp only [uval, hi_toNat, List.length_append, List.length_cons, List.length_nil, Nat.pow_succ, Nat.mul_zero, Nat.add_zero]
      subst hf
      have hmm : (x.toNat % 128 + 128) % 128 = x.toNat % 128 := by omega
      rw [hmm]
      have e1 : (127 : UInt8).toNat = 127 := rfl
      have e0 : (0 : UInt8).toNat = 0 := rfl
      generalize x.toNat % 128 = r
      push_cast
      generalize (128 : Int) ^ i.length = P
      by_cases hx : 64 ≤ r
      · simp only [if_pos hx, e1]
        rw [if_pos (by decide)]
        simp only [Int.mul_sub]
        omega
      · simp only [if_neg hx, e0]
        rw [if_neg (by decide)]
        simp
    · rw [Ended_append]
      refine ⟨fun y hy => ?_, hfill⟩
      rcases List.mem_append.1 hy with hy | hy
      · exact h'.1 y hy
      · simp at hy; subst hy; rw [hi_toNat]; omega
theorem fillOf_lt (l : List UInt8) : (fillOf l).toNat < 128 := by unfold fillOf; split <;> decide
theorem fillOf_cases (l : List UInt8) : (true = false ∧ fillOf l = 0) ∨ (true = true ∧ (l.getD (l.length - 1) 0).toNat % 128 < 64 ∧ fillOf l = 0) ∨ (true = true ∧ 64 ≤ (l.getD (l.length - 1) 0).toNat % 128 ∧ fillOf l = 127) := by
  unfold fillOf
  by_cases h : 64 ≤ (l.getD (l.length - 1) 0).toNat % 128
  · exact .inr (.inr ⟨rfl, h, if_pos h⟩)
  · exact .inr (.inl ⟨rfl, by omega, if_neg h⟩)
theorem wrap64_id {n : Int} (h1 : -9223372036854775808 ≤ n) (h2 : n ≤ 9223372036854775807) : wrap64 n = n := by unfold wrap64; omega

/-! ### bits of a signed number of 64 bits -/
theorem ofInt64_toNat (x : Int) : (BitVec.ofInt 64 x).toNat = (x % 18446744073709551616).toNat := by
  rw [BitVec.toNat_ofInt]; rfl

theorem i64_and_nat {x y : Int} {a b : Nat} (hx : x % 18446744073709551616 = (a : Int)) (hy : y % 18446744073709551616 = (b : Int)) :
    bits .and .i64 x y = IntKind.i64.wrap ((a &&& b : Nat) : Int) := by
  show IntKind.i64.wrap (((BitVec.ofInt 64 x &&& BitVec.ofInt 64 y : BitVec 64).toNat : Nat) : Int) = _
  rw [BitVec.toNat_and, ofInt64_toNat, ofInt64_toNat, hx, hy, Int.toNat_natCast, Int.toNat_natCast]
theorem i64_or_nat {x y : Int} {a b : Nat} (hx : x % 18446744073709551616 = (a : Int)) (hy : y % 18446744073709551616 = (b : Int)) :
    bits .or .i64 x y = IntKind.i64.wrap ((a ||| b : Nat) : Int) := by
  show IntKind.i64.wrap (((BitVec.ofInt 64 x ||| BitVec.ofInt 64 y : BitVec 64).toNat : Nat) : Int) = _
  rw [BitVec.toNat_or, ofInt64_toNat, ofInt64_toNat, hx, hy, Int.toNat_natCast, Int.toNat_natCast]

theorem wrap_i64_eq (n : Int) : IntKind.i64.wrap n = wrap64 n := by
  unfold IntKind.wrap wrap64
  simp only [IntKind.bits, IntKind.signed, Bool.true_and]
  split <;> rename_i h <;> simp at h <;> omega

theorem and127_i64 (m : Int) : bits .and .i64 m 127 = m % 128 := by
  obtain ⟨a, ha⟩ := Int.eq_ofNat_of_zero_le (show 0 ≤ m % 18446744073709551616 by omega)
  rw [i64_and_nat ha (b := 127) (by decide), nat_mask7, wrap_i64_eq]
  unfold wrap64; omega

/-- One round of the signed decoder. -/
theorem sdec_step (u k : Nat) (y : UInt8) (hk : k ≤ 9) (hu : u < 128 ^ k) :
    bits .or .i64 (wrap64 (u : Int)) (wrap64 (bits .and .i64 (wrap64 ((y.toNat : Nat) : Int)) 127 * 2 ^ (7 * k))) = wrap64 ((u + y.toNat % 128 * 128 ^ k : Nat) : Int) := by
  have e0 : wrap64 ((y.toNat : Nat) : Int) = ((y.toNat : Nat) : Int) := by have := y.toNat_lt; unfold wrap64; omega
  rw [e0]
  have hmod : ∀ n : Nat, (wrap64 (n : Int)) % 18446744073709551616 = ((n % M64 : Nat) : Int) := by intro n; unfold wrap64 M64; omega
  have e1 : bits .and .i64 ((y.toNat : Nat) : Int) 127 * 2 ^ (7 * k) = ((y.toNat % 128 * 2 ^ (7 * k) : Nat) : Int) := by
    rw [and127_i64]; push_cast; rfl
  rw [e1, i64_or_nat (hmod u) (hmod _), dec_step_nat u _ k hk hu, wrap_i64_eq]
  unfold wrap64 M64; omega

theorem neg_wrap (A : Nat) (hle : 2 * A ≤ 18446744073709551616) (hp : 0 < A) : (wrap64 (-(wrap64 (A : Int)))) % 18446744073709551616 = ((18446744073709551616 - A : Nat) : Int) := by
  unfold wrap64; omega
theorem add_wrap (u A : Nat) (hle : 2 * A ≤ 18446744073709551616) : wrap64 ((18446744073709551616 - A + u : Nat) : Int) = wrap64 ((u : Int) - (A : Int)) := by
  unfold wrap64; omega

/-- The last step of the signed decoder: the sign. -/
def shl1 (L : Nat) : Int := wrap64 (2 ^ (min (7 * L) 64))
theorem sdec_last (u L : Nat) (h1 : 1 ≤ L) (hL : L ≤ 10) (hu : u < 128 ^ L) :
    bits .or .i64 (wrap64 (u : Int)) (wrap64 (-(shl1 L))) = wrap64 ((u : Int) - ((128 ^ L : Nat) : Int)) := by
  have hmod : (wrap64 (u : Int)) % 18446744073709551616 = ((u % M64 : Nat) : Int) := by unfold wrap64 M64; omega
  by_cases h10 : L = 10
  · subst h10
    have e : (wrap64 (-(shl1 10))) % 18446744073709551616 = ((0 : Nat) : Int) := by decide +kernel
    rw [i64_or_nat hmod e, Nat.or_zero, wrap_i64_eq]
    unfold wrap64 M64; omega
  · have h7 : 128 ^ L = 2 ^ (7 * L) := by rw [Nat.pow_mul]
    have hs := M64_split L (by omega)
    have hmin : min (7 * L) 64 = 7 * L := by omega
    unfold shl1
    rw [hmin]
    have hp : 0 < 2 ^ (7 * L) := Nat.two_pow_pos _
    have hq : 2 ≤ 2 ^ (64 - 7 * L) := by
      have : 2 ^ 1 ≤ 2 ^ (64 - 7 * L) := Nat.pow_le_pow_right (by decide) (by omega)
      simpa using this
    have hA : ((2 : Int) ^ (7 * L)) = ((2 ^ (7 * L) : Nat) : Int) := by push_cast; rfl
    rw [hA]
    rw [h7] at hu ⊢
    have hj := nat_join (7 * L) (M64 - 2 ^ (7 * L)) u (by rw [hs, ← Nat.mul_sub_one, Nat.mul_mod_right]) hu
    have hle : 2 * 2 ^ (7 * L) ≤ M64 := by rw [hs, Nat.mul_comm]; exact Nat.mul_le_mul_left _ hq
    generalize 2 ^ (7 * L) = A at *
    clear hs hA
    have hM : M64 = 18446744073709551616 := rfl
    have e := neg_wrap A (by rw [hM] at hle; exact hle) hp
    rw [i64_or_nat hmod e, Nat.mod_eq_of_lt (show u < M64 by omega)]
    rw [← hM, Nat.or_comm, hj, wrap_i64_eq, hM]
    rw [hM] at hle
    exact add_wrap u A hle

theorem bit6_pos {y : UInt8} (h : 64 ≤ y.toNat % 128) : (0 : Int) < bits .and .u8 ((y.toNat : Nat) : Int) 64 := by rw [bit6]; omega
theorem bit6_neg {y : UInt8} (h : ¬ 64 ≤ y.toNat % 128) : ¬ (0 : Int) < bits .and .u8 ((y.toNat : Nat) : Int) 64 := by rw [bit6]; omega

/-- The encoder's byte, as the walk writes it. -/
theorem senc_byte (m : Int) : bits .and .i64 m 127 % 256 = (((UInt8.ofNat (m % 128).toNat).toNat : Nat) : Int) := by
  rw [and127_i64, ofNat_toNat (by omega)]; omega

end Go.Proofs.Ytahohmdfllgedaa
