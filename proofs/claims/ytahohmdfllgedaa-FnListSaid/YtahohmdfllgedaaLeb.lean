/- The numbers of variable length (LEB128) as plain functions on lists of bytes. No program in sight. -/
import Derived.WalkKit
namespace Go.Proofs.Ytahohmdfllgedaa

/-- The bytes of a number. -/
def uleb (n : Nat) : List UInt8 := if h : n < 128 then [UInt8.ofNat n] else UInt8.ofNat (n % 128 + 128) :: uleb (n / 128)
termination_by n
decreasing_by omega

theorem uleb_small {n : Nat} (h : n < 128) : uleb n = [UInt8.ofNat n] := by rw [uleb, dif_pos h]
theorem uleb_big {n : Nat} (h : ¬ n < 128) : uleb n = UInt8.ofNat (n % 128 + 128) :: uleb (n / 128) := by rw [uleb, dif_neg h]

theorem uleb_pos (n : Nat) : 0 < (uleb n).length := by
  by_cases h : n < 128
  · rw [uleb_small h]; simp
  · rw [uleb_big h]; simp

theorem uleb_le (k : Nat) : ∀ n, n < 128 ^ (k + 1) → (uleb n).length ≤ k + 1 := by
  induction k with
  | zero => intro n h; rw [uleb_small (by simpa using h)]; simp
  | succ k ih =>
    intro n h
    by_cases h1 : n < 128
    · rw [uleb_small h1]; simp
    · rw [uleb_big h1]
      have : n / 128 < 128 ^ (k + 1) := by rw [Nat.div_lt_iff_lt_mul (by decide)]; rw [Nat.pow_succ] at h; exact h
      have := ih _ this
      simp; omega

theorem uleb_le10 {n : Nat} (h : n < 18446744073709551616) : (uleb n).length ≤ 10 := uleb_le 9 n (by omega)

/-- A row of bytes that is one number of variable length: all but the last have their highest bit. -/
def Ended : List UInt8 → Prop
  | [] => False
  | [x] => x.toNat < 128
  | x :: l => 128 ≤ x.toNat ∧ Ended l

/-- Its value, without a bound. -/
def uval : List UInt8 → Nat
  | [] => 0
  | x :: l => x.toNat % 128 + 128 * uval l

theorem ofNat_toNat {n : Nat} (h : n < 256) : (UInt8.ofNat n).toNat = n := by simp [Nat.mod_eq_of_lt h]

theorem Ended_cons {x : UInt8} {l : List UInt8} (hx : 128 ≤ x.toNat) (h : Ended l) : Ended (x :: l) := by
  cases l with
  | nil => exact h.elim
  | cons y l => exact ⟨hx, h⟩

theorem Ended_iff {x : UInt8} {l : List UInt8} (hl : l ≠ []) : Ended (x :: l) ↔ (128 ≤ x.toNat ∧ Ended l) := by
  cases l with
  | nil => exact absurd rfl hl
  | cons y l => exact Iff.rfl

theorem uleb_ended (n : Nat) : Ended (uleb n) := by
  induction n using Nat.strongRecOn with
  | _ n ih =>
    by_cases h : n < 128
    · rw [uleb_small h]; show (UInt8.ofNat n).toNat < 128; rw [ofNat_toNat (by omega)]; exact h
    · rw [uleb_big h]
      exact Ended_cons (by rw [ofNat_toNat (by omega)]; omega) (ih _ (by omega))

theorem uval_uleb (n : Nat) : uval (uleb n) = n := by
  induction n using Nat.strongRecOn with
  | _ n ih =>
    by_cases h : n < 128
    · rw [uleb_small h]; simp only [uval, ofNat_toNat (show n < 256 by omega)]; omega
    · rw [uleb_big h]; simp only [uval, ofNat_toNat (show n % 128 + 128 < 256 by omega), ih _ (show n / 128 < n by omega)]; omega

theorem Ended_ne {l : List UInt8} (h : Ended l) : l ≠ [] := by rintro rfl; exact h

/-- 2 to the 64th, behind a name. -/
def M64 : Nat := 18446744073709551616
theorem M64_eq : M64 = 18446744073709551616 := rfl

/-- In an ended row: the last byte is small, the others are not. -/
theorem Ended_get {l : List UInt8} (h : Ended l) (i : Nat) (hi : i < l.length) : (l[i].toNat < 128 ↔ i + 1 = l.length) := by
  induction l generalizing i with
  | nil => cases hi
  | cons x l ih =>
    by_cases hl : l = []
    · subst hl; simp at hi; subst hi; have h' : x.toNat < 128 := h; simpa using h'
    · have h2 := (Ended_iff hl).1 h
      cases i with
      | zero =>
        have : 0 < l.length := List.length_pos_iff.2 hl
        simp only [List.getElem_cons_zero, List.length_cons]; omega
      | succ i => simp at hi ⊢; exact ih h2.2 i hi

/-- What the decoder has after i rounds. -/
theorem uval_take_succ {l : List UInt8} (i : Nat) (hi : i < l.length) : uval (l.take (i + 1)) = uval (l.take i) + l[i].toNat % 128 * 128 ^ i := by
  induction l generalizing i with
  | nil => cases hi
  | cons x l ih =>
    cases i with
    | zero => simp [uval]
    | succ i =>
      simp at hi
      simp only [List.take_succ_cons, uval, ih i hi, List.getElem_cons_succ, Nat.pow_succ, Nat.mul_add]
      have : 128 * (l[i].toNat % 128 * 128 ^ i) = l[i].toNat % 128 * (128 ^ i * 128) := by
        rw [Nat.mul_comm (128 ^ i) 128, ← Nat.mul_assoc, ← Nat.mul_assoc, Nat.mul_comm 128]
      omega

theorem uval_lt (l : List UInt8) : uval l < 128 ^ l.length := by
  induction l with
  | nil => simp [uval]
  | cons x l ih =>
    simp only [uval, List.length_cons, Nat.pow_succ]
    have := Nat.mod_lt x.toNat (show 0 < 128 by decide)
    have h2 : uval l + 1 ≤ 128 ^ l.length := ih
    have h3 := Nat.mul_le_mul_right 128 h2
    rw [Nat.add_mul] at h3
    omega

theorem and127_u64 (m : Nat) (h : m < 18446744073709551616) : bits .and .u64 (m : Int) 127 = ((m % 128 : Nat) : Int) := by
  have := u64_and_nat m 127 h (by decide)
  rw [nat_mask7] at this
  exact this

theorem or128_u8 (x : Int) (h0 : 0 ≤ x) (h1 : x < 256) : bits .or .u8 x 128 = x % 128 + 128 := by
  rw [u8_or x 128 h0 h1 (by decide) (by decide)]
  obtain ⟨n, rfl⟩ := Int.eq_ofNat_of_zero_le h0
  have hn : n < 256 := by omega
  have : ∀ k : Fin 256, (k.val ||| 128) = k.val % 128 + 128 := by decide +kernel
  have := this ⟨n, hn⟩
  simp only at this
  simp only [Int.toNat_natCast]
  show ((n ||| 128 : Nat) : Int) = _
  rw [this]; omega

theorem wrap_u64_nat (n : Nat) : IntKind.u64.wrap (n : Int) = ((n % M64 : Nat) : Int) := by
  simp [IntKind.wrap, IntKind.bits, IntKind.signed, M64]

theorem M64_split (k : Nat) (hk : k ≤ 9) : M64 = 2 ^ (7 * k) * 2 ^ (64 - 7 * k) := by
  rw [← Nat.pow_add, show 7 * k + (64 - 7 * k) = 64 by omega]; rfl

/-- One round of the decoder. -/
theorem dec_step_nat (u a k : Nat) (hk : k ≤ 9) (hu : u < 128 ^ k) : u % M64 ||| (a * 2 ^ (7 * k)) % M64 = (u + a * 128 ^ k) % M64 := by
  have h7 : 128 ^ k = 2 ^ (7 * k) := by rw [Nat.pow_mul]
  rw [h7] at hu ⊢
  have hs := M64_split k hk
  have hp : 0 < 2 ^ (7 * k) := Nat.two_pow_pos _
  have hq : 0 < 2 ^ (64 - 7 * k) := Nat.two_pow_pos _
  generalize hA : 2 ^ (7 * k) = A at *
  generalize 2 ^ (64 - 7 * k) = B at *
  have hAM : A ≤ M64 := by rw [hs]; exact Nat.le_mul_of_pos_right _ hq
  have hc : (a * A) % M64 = A * (a % B) := by rw [hs, Nat.mul_comm a A, Nat.mul_mod_mul_left]
  have hmod : A * (a % B) + A ≤ M64 := by
    have := Nat.mod_lt a hq
    calc A * (a % B) + A = A * (a % B + 1) := by rw [Nat.mul_add, Nat.mul_one]
      _ ≤ A * B := Nat.mul_le_mul_left _ this
      _ = M64 := hs.symm
  rw [Nat.mod_eq_of_lt (show u < M64 by omega), hc, Nat.or_comm, nat_join (7 * k) _ u (by rw [hA, Nat.mul_mod_right]) (by rw [hA]; exact hu)]
  have h3 : u + A * (a % B) < M64 := by omega
  rw [Nat.add_mod, hc, Nat.mod_eq_of_lt (show u < M64 by omega), Nat.mod_eq_of_lt h3, Nat.add_comm]

theorem dec_step (u k : Nat) (y : UInt8) (hk : k ≤ 9) (hu : u < 128 ^ k) :
    bits .or .u64 ((u % M64 : Nat) : Int) (IntKind.u64.wrap (bits .and .u64 (IntKind.u64.wrap ((y.toNat : Nat) : Int)) 127 * 2 ^ (7 * k))) = (((u + y.toNat % 128 * 128 ^ k) % M64 : Nat) : Int) := by
  have hy := y.toNat_lt
  have e1 : IntKind.u64.wrap ((y.toNat : Nat) : Int) = ((y.toNat : Nat) : Int) := by rw [wrap_u64_nat, Nat.mod_eq_of_lt (by unfold M64; omega)]
  rw [e1, and127_u64 _ (by omega)]
  have e2 : ((y.toNat % 128 : Nat) : Int) * 2 ^ (7 * k) = ((y.toNat % 128 * 2 ^ (7 * k) : Nat) : Int) := by push_cast; rfl
  rw [e2, wrap_u64_nat]
  have := u64_or_nat (u % M64) ((y.toNat % 128 * 2 ^ (7 * k)) % M64) (Nat.mod_lt _ (by decide)) (Nat.mod_lt _ (by decide))
  rw [this, dec_step_nat u _ k hk hu]

theorem top_bit (y : UInt8) : bits .and .u8 ((y.toNat : Nat) : Int) 128 = ((y.toNat / 128 * 128 : Nat) : Int) := by
  have hy := y.toNat_lt
  have := u8_and_nat y.toNat 128 hy (by decide)
  have h2 := nat_bit 7 y.toNat
  rw [show (2 : Nat) ^ 7 = 128 by rfl] at h2
  show bits .and .u8 ((y.toNat : Nat) : Int) ((128 : Nat) : Int) = _
  rw [this, h2, Nat.mod_eq_of_lt (by omega)]
theorem bit6 (y : UInt8) : bits .and .u8 ((y.toNat : Nat) : Int) 64 = ((y.toNat / 64 % 2 * 64 : Nat) : Int) := by
  have hy := y.toNat_lt
  have := u8_and_nat y.toNat 64 hy (by decide)
  have h2 := nat_bit 6 y.toNat
  rw [show (2 : Nat) ^ 6 = 64 by rfl] at h2
  show bits .and .u8 ((y.toNat : Nat) : Int) ((64 : Nat) : Int) = _
  rw [this, h2]
theorem top_bit_set {y : UInt8} (h : ¬ y.toNat < 128) : (bits .and .u8 ((y.toNat : Nat) : Int) 128 == 0) = false := by
  have := y.toNat_lt
  rw [top_bit, beq_eq_false_iff_ne]; omega
theorem top_bit_clear {y : UInt8} (h : y.toNat < 128) : (bits .and .u8 ((y.toNat : Nat) : Int) 128 == 0) = true := by
  rw [top_bit, beq_iff_eq]; omega

/-- The encoder's byte with its highest bit: as the walk writes it. -/
theorem enc_byte (m : Nat) (h : m < 18446744073709551616) : bits .or .u8 (bits .and .u64 (m : Int) 127 % 256) 128 = (((UInt8.ofNat (m % 128 + 128)).toNat : Nat) : Int) := by
  rw [and127_u64 m h, or128_u8 _ (by omega) (by omega), ofNat_toNat (by omega)]; omega
theorem enc_last (m : Nat) (h : m < 128) : bits .and .u64 (m : Int) 127 % 256 = (((UInt8.ofNat m).toNat : Nat) : Int) := by
  rw [and127_u64 m (by omega), ofNat_toNat (by omega)]; omega

/-! ### numbers with more bytes than they need -/
def hi (x : UInt8) : UInt8 := UInt8.ofNat (x.toNat % 128 + 128)
theorem hi_toNat (x : UInt8) : (hi x).toNat = x.toNat % 128 + 128 := by unfold hi; exact ofNat_toNat (by omega)

/-- k times: the last byte gets its highest bit, and 'fill' stands behind it. -/
def padN (fill : UInt8) : Nat → List UInt8 → List UInt8
  | 0, l => l
  | k + 1, l => padN fill k (l.set (l.length - 1) (hi (l.getD (l.length - 1) 0)) ++ [fill])

theorem padN_length (fill : UInt8) (k : Nat) : ∀ l, (padN fill k l).length = l.length + k := by
  induction k with
  | zero => intro l; rfl
  | succ k ih => intro l; rw [padN, ih]; simp; omega

theorem set_last (i : List UInt8) (x y : UInt8) : (i ++ [x]).set ((i ++ [x]).length - 1) y = i ++ [y] := by
  rw [List.length_append]; simp [List.set_append_right]
theorem getD_last (i : List UInt8) (x : UInt8) : (i ++ [x]).getD ((i ++ [x]).length - 1) 0 = x := by
  simp [List.getD]

theorem padN_snoc (fill : UInt8) (k : Nat) (i : List UInt8) (x : UInt8) : padN fill (k + 1) (i ++ [x]) = padN fill k (i ++ [hi x] ++ [fill]) := by
  rw [padN, set_last, getD_last]

theorem Ended_append {i : List UInt8} {x : UInt8} : Ended (i ++ [x]) ↔ (∀ y ∈ i, 128 ≤ y.toNat) ∧ x.toNat < 128 := by
  induction i with
  | nil => simp [Ended]
  | cons y i ih =>
    rw [List.cons_append, Ended_iff (by simp), ih]
    simp [and_assoc]

theorem uval_append (i j : List UInt8) : uval (i ++ j) = uval i + 128 ^ i.length * uval j := by
  induction i with
  | nil => simp [uval]
  | cons y i ih =>
    simp only [List.cons_append, uval, ih, List.length_cons, Nat.pow_succ, Nat.mul_add]
    rw [← Nat.mul_assoc, Nat.mul_comm 128 (128 ^ i.length)]; omega

theorem exists_snoc {l : List UInt8} (h : l ≠ []) : ∃ i x, l = i ++ [x] := ⟨l.dropLast, l.getLast h, (List.dropLast_concat_getLast h).symm⟩

theorem padN_ended (fill : UInt8) (hf : fill.toNat < 128) (k : Nat) : ∀ l, Ended l → Ended (padN fill k l) := by
  induction k with
  | zero => intro l h; exact h
  | succ k ih =>
    intro l h
    obtain ⟨i, x, rfl⟩ := exists_snoc (Ended_ne h)
    rw [padN_snoc]
    apply ih
    rw [Ended_append] at h ⊢
    refine ⟨fun y hy => ?_, hf⟩
    rcases List.mem_append.1 hy with hy | hy
    · exact h.1 y hy
    · simp at hy; subst hy; rw [hi_toNat]; omega

theorem padN_uval (k : Nat) : ∀ l, Ended l → uval (padN 0 k l) = uval l := by
  induction k with
  | zero => intro l h; rfl
  | succ k ih =>
    intro l h
    obtain ⟨i, x, rfl⟩ := exists_snoc (Ended_ne h)
    have h' := Ended_append.1 h
    rw [padN_snoc, ih]
    · rw [uval_append, uval_append, uval_append]
      simp [uval, hi_toNat]
    · rw [Ended_append]
      refine ⟨fun y hy => ?_, by decide⟩
      rcases List.mem_append.1 hy with hy | hy
      · exact h'.1 y hy
      · simp at hy; subst hy; rw [hi_toNat]; omega

theorem or_hi (x : UInt8) : bits .or .u8 ((x.toNat : Nat) : Int) 128 = (((hi x).toNat : Nat) : Int) := by
  rw [or128_u8 _ (by omega) (by have := x.toNat_lt; omega), hi_toNat]; omega

end Go.Proofs.Ytahohmdfllgedaa
