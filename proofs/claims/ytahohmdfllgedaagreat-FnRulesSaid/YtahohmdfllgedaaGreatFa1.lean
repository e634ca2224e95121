/- What the calls of the plain buffer (dvutil.Buffer) do, and slices.Clone of bytes.
The numbers of variable length (LEB128) as plain functions on lists of bytes. No program in sight.
What the calls that write and read numbers of variable length do: spec.Unsigned, spec.Padded, leb128.EncodeUnsigned, leb128.DecodeUnsigned.
append once more: elements of up to 64 bytes; and at a step of a region that draws its order.
spec.Little: a number in so many bytes, the least first.
The signed numbers of variable length as plain functions on lists of bytes. No program in sight.
Instructions of call frames xs bytes: plain Lean.
The section of call frame information as bytes: plain Lean.
What the calls that read numbers of variable length do: leb128.DecodeUnsigned, leb128.DecodeSigned over a plain buffer.
slices.Clone of bytes, bytes.Equal, and the thin package's calls on numbers of variable length (unsigned).
What spec.Padded does.
What spec.Signed, leb128.EncodeSigned and leb128.DecodeSigned do. -/
import Derived.Test.YtahohmdfllgedaaGreatFa0
import Derived.Test.YtahohmdfllgedaaGreatRows
import Derived.WalkKit
import Derived.Deep.AppendLies
import Derived.Deep.RegionLaw
import Derived.Deep.RegionHeld3
import Derived.Deep.DrawnRows
import Derived.Lib.SliceRun
set_option linter.unusedVariables false
set_option linter.unusedSimpArgs false
namespace Go.Proofs.YtahohmdfllgedaaGreat
open Go.RowKit

/-- Block b holds a buffer over the slice v, which reads l; off of its bytes have been read. -/
def BufR (w : World) (b : Nat) (v : Value) (l : List UInt8) (off : Nat) (rd : Bool) : Prop :=
  w.heap[b]? = some (.cells #[v, .int .i64 (off : Int), .bool rd] 132 (0, 0)) ∧ Sl w v (vbs l) ∧ v.ownBlock ≠ some b ∧ off ≤ l.length ∧ l.length ≤ 1099511627776

theorem BufR.lt {w : World} {b : Nat} {v : Value} {l : List UInt8} {off : Nat} {rd : Bool} (h : BufR w b v l off rd) : b < w.heap.size := lt_heap h.1

/-- The slice's value, as the walk wants it. -/
theorem Sl.shape {w : World} {v : Value} {l : List UInt8} (h : Sl w v (vbs l)) :
    ∃ a c, v = .slice a l.length c ∧ l.length ≤ c ∧ c ≤ maxLen ∧ (0 < l.length → ∃ g o, a = some ⟨g, o, none⟩ ∧ Cells w g o (vbs l)) ∧ (a = none → l = [] ∧ c = 0) := by
  by_cases hl : 0 < l.length
  · obtain ⟨g, o, c, rfl, h1, h2, h3⟩ := sl_some h (by simpa using hl)
    exact ⟨_, c, by simp, by simpa using h1, h2, fun _ => ⟨g, o, rfl, h3⟩, fun h => by cases h⟩
  · have : l = [] := List.eq_nil_of_length_eq_zero (by omega)
    subst this
    rcases h with ⟨rfl, _⟩ | ⟨x, c, rfl, h1, h2, _⟩
    · exact ⟨none, 0, rfl, Nat.le_refl _, by simp [maxLen], fun h => by simp at h, fun _ => ⟨rfl, rfl⟩⟩
    · exact ⟨_, c, rfl, h1, h2, fun h => by simp at h, fun h => by cases h⟩

theorem BufR.fr {bs : List Nat} {w w' : World} {b : Nat} {v : Value} {l : List UInt8} {off : Nat} {rd : Bool} (h : BufR w b v l off rd) (f : Fr bs w w') (hb : b ∉ bs)
    (hv : ∀ g, v.ownBlock = some g → g ∉ bs) : BufR w' b v l off rd :=
  ⟨f.get h.1 hb, h.2.1.fr f hv, h.2.2⟩

theorem cell_vb {w : World} {g o : Nat} {l : List UInt8} (h : Cells w g o (vbs l)) (i : Nat) (hi : i < l.length) : w.cell? ⟨g, o + i, none⟩ = some (.int .u8 ((l[i].toNat : Nat) : Int)) :=
  h.cell (i := i) (by simp [hi])

set_option maxHeartbeats 400000 in
theorem NewBuffer_any (a : Option Addr) (n c : Nat) (w : World) :
    Calls Tryz.prog 38 #[.slice a n c] w fun e w' => e = .returned (.pointer (some ⟨w.heap.size, 0, none⟩)) ∧ w' = w.alloc (.cells #[.slice a n c, .int .i64 0, .bool false] 132 (0, 0)) := by
  go_enter Tryz.func38, Tryz.ntmps38
  go_wp2_with fail
  go_ret
  exact ⟨rfl, rfl⟩

set_option maxHeartbeats 400000 in
theorem BufLen_any (b : Nat) (v : Value) (l : List UInt8) (off m : Nat) (rd : Bool) (w : World) (h : BufR w b v l off rd) (hm : off + m = l.length) :
    Calls Tryz.prog 41 #[.pointer (some ⟨b, 0, none⟩)] w fun e w' => e = .returned (.int .i64 (m : Int)) ∧ ∃ k, w' = w.drewN k := by
  obtain ⟨hb, hs, hne, ho, hl⟩ := h
  obtain ⟨a, c, rfl, h1, h2, h3, -⟩ := hs.shape
  have c0 : w.cell? ⟨b, 0, none⟩ = some (.slice a l.length c) := by rw [blk_cell hb]; rfl
  have c1 : w.cell? ⟨b, 1, none⟩ = some (.int .i64 (off : Int)) := by rw [blk_cell hb]; rfl
  have hr : Hid ((l.length : Int) - off = m) := by show _ = _; omega
  clear hb hs hne h1 h2 h3 hm
  generalize l.length = n at *
  go_enter Tryz.func41, Tryz.ntmps41
  go_wp2_with fail
  go_quiet (fail)
  go_wp2
  go_ret
  exact ⟨by rw [hr.out]; rfl, _, rfl⟩

set_option maxRecDepth 100000 in
set_option maxHeartbeats 1000000 in
/-- ReadByte where a byte is left. -/
theorem BufReadByte_some (b : Nat) (v : Value) (l : List UInt8) (off : Nat) (rd : Bool) (w : World) (h : BufR w b v l off rd) (ho : off < l.length) :
    Calls Tryz.prog 73 #[.pointer (some ⟨b, 0, none⟩)] w fun e w' =>
      e = .returned (.tuple #[vb l[off], .nilIface]) ∧ BufR w' b v l (off + 1) true ∧ Fr [b] w w' := by
  have hB := h
  obtain ⟨hb, hs, hne, -, hl⟩ := h
  obtain ⟨a, c, rfl, h1, h2, h3, -⟩ := hs.shape
  obtain ⟨g, o, rfl, hc⟩ := h3 (by omega)
  have hgb : g ≠ b := by simpa [Value.ownBlock] using hne
  have c0 : w.cell? ⟨b, 0, none⟩ = some (.slice (some ⟨g, o, none⟩) l.length c) := by rw [blk_cell hb]; rfl
  have c1 : w.cell? ⟨b, 1, none⟩ = some (.int .i64 (off : Int)) := by rw [blk_cell hb]; rfl
  have c2 : w.cell? ⟨b, 2, none⟩ = some (.bool rd) := by rw [blk_cell hb]; rfl
  have f0 : w.frozen? ⟨b, 0, none⟩ = false := blk_free hb _
  have f1 : w.frozen? ⟨b, 1, none⟩ = false := blk_free hb _
  have f2 : w.frozen? ⟨b, 2, none⟩ = false := blk_free hb _
  have cx := cell_vb hc off ho
  have hm : 0 < l.length - off := by omega
  have HB := Lib.hid hB
  have Hb := Lib.hid hb
  have Hs := Lib.hid hs
  have hne' : Hid (g ≠ b) := hgb
  have hne2 : (((l.length - off : Nat) : Int) == 0) = false := by simp; omega
  clear hB hb hs hne h1 h3 hgb hc
  unfold maxLen at h2
  have hlen : (off : Int) < (l.length : Int) := by omega
  go_enter Tryz.func73, Tryz.ntmps73
  go_wp2_with (go_at_call 41; refine (BufLen_any b _ l off (l.length - off) rd _ HB.out (by omega)).mono ?_; rintro e w' ⟨rfl, k, rfl⟩)
  go_quiet (fail)
  go_wp2
  go_ret2
  refine ⟨rfl, ⟨?_, ?_, by simpa [Value.ownBlock] using hne'.out, by omega, hl⟩, ?_⟩
  · simpa using blk_set (w := (w.drewN (k + nq)).setCell ⟨b, 1, none⟩ (.int .i64 ((off : Int) + 1))) (blk_set (w := w.drewN (k + nq)) Hb.out 1 _) 2 (.bool true)
  · refine Hs.out.fr (bs := [b]) (((Fr.refl _ _).drewN _ |>.setCell (.inl (by simp)) _).setCell (.inl (by simp)) _) ?_
    intro g' hg'; simp [Value.ownBlock] at hg'; subst hg'; simpa using hne'.out
  · exact ((Fr.refl _ _).drewN _ |>.setCell (.inl (by simp)) _).setCell (.inl (by simp)) _

set_option maxRecDepth 100000 in
set_option maxHeartbeats 1000000 in
/-- ReadByte at the end. -/
theorem BufReadByte_end (b : Nat) (v : Value) (l : List UInt8) (rd : Bool) (w : World) (h : BufR w b v l l.length rd) :
    Calls Tryz.prog 73 #[.pointer (some ⟨b, 0, none⟩)] w fun e w' =>
      (∃ x, e = .returned (.tuple #[.int .u8 0, .iface 163 x])) ∧ BufR w' b v l l.length false ∧ Fr [b] w w' := by
  have hB := h
  obtain ⟨hb, hs, hne, -, hl⟩ := h
  have c2 : w.cell? ⟨b, 2, none⟩ = some (.bool rd) := by rw [blk_cell hb]; rfl
  have f2 : w.frozen? ⟨b, 2, none⟩ = false := blk_free hb _
  have HB := Lib.hid hB
  have Hb := Lib.hid hb
  have Hs := Lib.hid hs
  have hne' := Lib.hid hne
  clear hB hb hs hne
  go_enter Tryz.func73, Tryz.ntmps73
  go_wp2_with (go_at_call 41; refine (BufLen_any b _ l l.length 0 rd _ HB.out (by omega)).mono ?_; rintro e w' ⟨rfl, k, rfl⟩)
  go_ret2
  refine ⟨⟨_, rfl⟩, ⟨?_, ?_, hne'.out, Nat.le_refl _, hl⟩, ?_⟩
  · simpa using blk_set (w := w.drewN k) Hb.out 2 (.bool false)
  · refine Hs.out.fr (bs := [b]) ((Fr.refl _ _).drewN _ |>.setCell (.inl (by simp)) _) ?_
    intro g hg; simp; rintro rfl; exact hne'.out hg
  · exact (Fr.refl _ _).drewN _ |>.setCell (.inl (by simp)) _

/-- A buffer that has just been made. -/
theorem BufR_new {w : World} {v : Value} {l : List UInt8} (h : Sl w v (vbs l)) (hlt : ∀ g, v.ownBlock = some g → g < w.heap.size) (hl : l.length ≤ 1099511627776) : BufR (w.alloc (.cells #[v, .int .i64 0, .bool false] 132 (0, 0))) w.heap.size v l 0 false :=
  ⟨blk_new _ _, h.fr ((Fr.refl [] w).alloc _) (by simp), (fun hg => by have := hlt _ hg; omega), Nat.zero_le _, hl⟩

/-! ### a buffer that is written -/
/-- Block b holds a buffer that was written with l and not read. -/
def BufW (base : Nat) (w : World) (b : Nat) (v : Value) (l : List UInt8) (rd : Bool) : Prop :=
  w.heap[b]? = some (.cells #[v, .int .i64 0, .bool rd] 132 (0, 0)) ∧ w.ownsRow base 5 1 v l.length (vbs l) ∧ v.ownBlock ≠ some b

theorem sliceB : SliceT Tryz.prog 26 5 (.int .u8 0) 1 1 := ⟨Tryz.underlying26, by kernel_rfl, rfl, by decide⟩

set_option maxRecDepth 100000 in
set_option maxHeartbeats 1000000 in
theorem BufBytes_w (base b : Nat) (v : Value) (l : List UInt8) (rd : Bool) (w : World) (h : BufW base w b v l rd) (hp : 0 < l.length) :
    Calls Tryz.prog 78 #[.pointer (some ⟨b, 0, none⟩)] w fun e w' => e = .returned v ∧ ∃ k, w' = w.drewN k := by
  obtain ⟨hb, hown, hne⟩ := h
  rcases hown.2 with ⟨_, h0⟩ | ⟨g, cap, cur, rfl, hbg, hhb, hnc, hcm, hcs, htake⟩
  · omega
  have c0 : w.cell? ⟨b, 0, none⟩ = some (.slice (some ⟨g, 0, none⟩) l.length cap) := by rw [blk_cell hb]; rfl
  have c1 : w.cell? ⟨b, 1, none⟩ = some (.int .i64 0) := by rw [blk_cell hb]; rfl
  unfold maxLen at hcm
  clear hb hown hne hhb hcs htake
  generalize l.length = n at *
  go_enter Tryz.func78, Tryz.ntmps78
  go_wp2_with fail
  go_quiet (fail)
  go_wp2
  go_ret
  exact ⟨rfl, _, rfl⟩
end Go.Proofs.YtahohmdfllgedaaGreat

namespace Go.Proofs.YtahohmdfllgedaaGreat

/-- The bytes of a number. -/
def uleb (n : Nat) : List UInt8 := if h : n < 128 then [UInt8.ofNat n] else UInt8.ofNat (n % 128 + 128) :: uleb (n / 128)
termination_by n
decreasing_by omega

theorem uleb_small {n : Nat} (h : n < 128) : uleb n = [UInt8.ofNat n] := by rw [uleb, dif_pos h]
theorem uleb_big {n : Nat} (h : ¬ n < 128) : uleb n = UInt8.ofNat (n % 128 + 128) :: uleb (n / 128) := by rw [uleb, dif_neg h]

theorem uleb_pos (n : Nat) : 0 < (uleb n).length := by
  by_cases h : n < 128
  · rw [uleb_small h]; simp
  · rw [uleb_big h]; simp

theorem uleb_le (k : Nat) : ∀ n, n < 128 ^ (k + 1) → (uleb n).length ≤ k + 1 := by
  induction k with
  | zero => intro n h; rw [uleb_small (by simpa using h)]; simp
  | succ k ih =>
    intro n h
    by_cases h1 : n < 128
    · rw [uleb_small h1]; simp
    · rw [uleb_big h1]
      have : n / 128 < 128 ^ (k + 1) := by rw [Nat.div_lt_iff_lt_mul (by decide)]; rw [Nat.pow_succ] at h; exact h
      have := ih _ this
      simp; omega

theorem uleb_le10 {n : Nat} (h : n < 18446744073709551616) : (uleb n).length ≤ 10 := uleb_le 9 n (by omega)

/-- A row of bytes that is one number of variable length: all but the last have their highest bit. -/
def Ended : List UInt8 → Prop
  | [] => False
  | [x] => x.toNat < 128
  | x :: l => 128 ≤ x.toNat ∧ Ended l

/-- Its value, without a bound. -/
def uval : List UInt8 → Nat
  | [] => 0
  | x :: l => x.toNat % 128 + 128 * uval l

theorem ofNat_toNat {n : Nat} (h : n < 256) : (UInt8.ofNat n).toNat = n := by simp [Nat.mod_eq_of_lt h]

theorem Ended_cons {x : UInt8} {l : List UInt8} (hx : 128 ≤ x.toNat) (h : Ended l) : Ended (x :: l) := by
  cases l with
  | nil => exact h.elim
  | cons y l => exact ⟨hx, h⟩

theorem Ended_iff {x : UInt8} {l : List UInt8} (hl : l ≠ []) : Ended (x :: l) ↔ (128 ≤ x.toNat ∧ Ended l) := by
  cases l with
  | nil => exact absurd rfl hl
  | cons y l => exact Iff.rfl

theorem uleb_ended (n : Nat) : Ended (uleb n) := by
  induction n using Nat.strongRecOn with
  | _ n ih =>
    by_cases h : n < 128
    · rw [uleb_small h]; show (UInt8.ofNat n).toNat < 128; rw [ofNat_toNat (by omega)]; exact h
    · rw [uleb_big h]
      exact Ended_cons (by rw [ofNat_toNat (by omega)]; omega) (ih _ (by omega))

theorem uval_uleb (n : Nat) : uval (uleb n) = n := by
  induction n using Nat.strongRecOn with
  | _ n ih =>
    by_cases h : n < 128
    · rw [uleb_small h]; simp only [uval, ofNat_toNat (show n < 256 by omega)]; omega
    · rw [uleb_big h]; simp only [uval, ofNat_toNat (show n % 128 + 128 < 256 by omega), ih _ (show n / 128 < n by omega)]; omega

theorem Ended_ne {l : List UInt8} (h : Ended l) : l ≠ [] := by rintro rfl; exact h

/-- 2 to the 64th, behind a name. -/
def M64 : Nat := 18446744073709551616
theorem M64_eq : M64 = 18446744073709551616 := rfl

/-- In an ended row: the last byte is small, the others are not. -/
theorem Ended_get {l : List UInt8} (h : Ended l) (i : Nat) (hi : i < l.length) : (l[i].toNat < 128 ↔ i + 1 = l.length) := by
  induction l generalizing i with
  | nil => cases hi
  | cons x l ih =>
    by_cases hl : l = []
    · subst hl; simp at hi; subst hi; have h' : x.toNat < 128 := h; simpa using h'
    · have h2 := (Ended_iff hl).1 h
      cases i with
      | zero =>
        have : 0 < l.length := List.length_pos_iff.2 hl
        simp only [List.getElem_cons_zero, List.length_cons]; omega
      | succ i => simp at hi ⊢; exact ih h2.2 i hi

/-- What the decoder has after i rounds. -/
theorem uval_take_succ {l : List UInt8} (i : Nat) (hi : i < l.length) : uval (l.take (i + 1)) = uval (l.take i) + l[i].toNat % 128 * 128 ^ i := by
  induction l generalizing i with
  | nil => cases hi
  | cons x l ih =>
    cases i with
    | zero => simp [uval]
    | succ i =>
      simp at hi
      simp only [List.take_succ_cons, uval, ih i hi, List.getElem_cons_succ, Nat.pow_succ, Nat.mul_add]
      have : 128 * (l[i].toNat % 128 * 128 ^ i) = l[i].toNat % 128 * (128 ^ i * 128) := by
        rw [Nat.mul_comm (128 ^ i) 128, ← Nat.mul_assoc, ← Nat.mul_assoc, Nat.mul_comm 128]
      omega

theorem uval_lt (l : List UInt8) : uval l < 128 ^ l.length := by
  induction l with
  | nil => simp [uval]
  | cons x l ih =>
    simp only [uval, List.length_cons, Nat.pow_succ]
    have := Nat.mod_lt x.toNat (show 0 < 128 by decide)
    have h2 : uval l + 1 ≤ 128 ^ l.length := ih
    have h3 := Nat.mul_le_mul_right 128 h2
    rw [Nat.add_mul] at h3
    omega

theorem and127_u64 (m : Nat) (h : m < 18446744073709551616) : bits .and .u64 (m : Int) 127 = ((m % 128 : Nat) : Int) := by
  have := u64_and_nat m 127 h (by decide)
  rw [nat_mask7] at this
  exact this

theorem or128_u8 (x : Int) (h0 : 0 ≤ x) (h1 : x < 256) : bits .or .u8 x 128 = x % 128 + 128 := by
  rw [u8_or x 128 h0 h1 (by decide) (by decide)]
  obtain ⟨n, rfl⟩ := Int.eq_ofNat_of_zero_le h0
  have hn : n < 256 := by omega
  have : ∀ k : Fin 256, (k.val ||| 128) = k.val % 128 + 128 := by decide +kernel
  have := this ⟨n, hn⟩
  simp only at this
  simp only [Int.toNat_natCast]
  show ((n ||| 128 : Nat) : Int) = _
  rw [this]; omega

theorem wrap_u64_nat (n : Nat) : IntKind.u64.wrap (n : Int) = ((n % M64 : Nat) : Int) := by
  simp [IntKind.wrap, IntKind.bits, IntKind.signed, M64]

theorem M64_split (k : Nat) (hk : k ≤ 9) : M64 = 2 ^ (7 * k) * 2 ^ (64 - 7 * k) := by
  rw [← Nat.pow_add, show 7 * k + (64 - 7 * k) = 64 by omega]; rfl

/-- One round of the decoder. -/
theorem dec_step_nat (u a k : Nat) (hk : k ≤ 9) (hu : u < 128 ^ k) : u % M64 ||| (a * 2 ^ (7 * k)) % M64 = (u + a * 128 ^ k) % M64 := by
  have h7 : 128 ^ k = 2 ^ (7 * k) := by rw [Nat.pow_mul]
  rw [h7] at hu ⊢
  have hs := M64_split k hk
  have hp : 0 < 2 ^ (7 * k) := Nat.two_pow_pos _
  have hq : 0 < 2 ^ (64 - 7 * k) := Nat.two_pow_pos _
  generalize hA : 2 ^ (7 * k) = A at *
  generalize 2 ^ (64 - 7 * k) = B at *
  have hAM : A ≤ M64 := by rw [hs]; exact Nat.le_mul_of_pos_right _ hq
  have hc : (a * A) % M64 = A * (a % B) := by rw [hs, Nat.mul_comm a A, Nat.mul_mod_mul_left]
  have hmod : A * (a % B) + A ≤ M64 := by
    have := Nat.mod_lt a hq
    calc A * (a % B) + A = A * (a % B + 1) := by rw [Nat.mul_add, Nat.mul_one]
      _ ≤ A * B := Nat.mul_le_mul_left _ this
      _ = M64 := hs.symm
  rw [Nat.mod_eq_of_lt (show u < M64 by omega), hc, Nat.or_comm, nat_join (7 * k) _ u (by rw [hA, Nat.mul_mod_right]) (by rw [hA]; exact hu)]
  have h3 : u + A * (a % B) < M64 := by omega
  rw [Nat.add_mod, hc, Nat.mod_eq_of_lt (show u < M64 by omega), Nat.mod_eq_of_lt h3, Nat.add_comm]

theorem dec_step (u k : Nat) (y : UInt8) (hk : k ≤ 9) (hu : u < 128 ^ k) :
    bits .or .u64 ((u % M64 : Nat) : Int) (IntKind.u64.wrap (bits .and .u64 (IntKind.u64.wrap ((y.toNat : Nat) : Int)) 127 * 2 ^ (7 * k))) = (((u + y.toNat % 128 * 128 ^ k) % M64 : Nat) : Int) := by
  have hy := y.toNat_lt
  have e1 : IntKind.u64.wrap ((y.toNat : Nat) : Int) = ((y.toNat : Nat) : Int) := by rw [wrap_u64_nat, Nat.mod_eq_of_lt (by unfold M64; omega)]
  rw [e1, and127_u64 _ (by omega)]
  have e2 : ((y.toNat % 128 : Nat) : Int) * 2 ^ (7 * k) = ((y.toNat % 128 * 2 ^ (7 * k) : Nat) : Int) := by push_cast; rfl
  rw [e2, wrap_u64_nat]
  have := u64_or_nat (u % M64) ((y.toNat % 128 * 2 ^ (7 * k)) % M64) (Nat.mod_lt _ (by decide)) (Nat.mod_lt _ (by decide))
  rw [this, dec_step_nat u _ k hk hu]

theorem top_bit (y : UInt8) : bits .and .u8 ((y.toNat : Nat) : Int) 128 = ((y.toNat / 128 * 128 : Nat) : Int) := by
  have hy := y.toNat_lt
  have := u8_and_nat y.toNat 128 hy (by decide)
  have h2 := nat_bit 7 y.toNat
  rw [show (2 : Nat) ^ 7 = 128 by rfl] at h2
  show bits .and .u8 ((y.toNat : Nat) : Int) ((128 : Nat) : Int) = _
  rw [this, h2, Nat.mod_eq_of_lt (by omega)]
theorem bit6 (y : UInt8) : bits .and .u8 ((y.toNat : Nat) : Int) 64 = ((y.toNat / 64 % 2 * 64 : Nat) : Int) := by
  have hy := y.toNat_lt
  have := u8_and_nat y.toNat 64 hy (by decide)
  have h2 := nat_bit 6 y.toNat
  rw [show (2 : Nat) ^ 6 = 64 by rfl] at h2
  show bits .and .u8 ((y.toNat : Nat) : Int) ((64 : Nat) : Int) = _
  rw [this, h2]
theorem top_bit_set {y : UInt8} (h : ¬ y.toNat < 128) : (bits .and .u8 ((y.toNat : Nat) : Int) 128 == 0) = false := by
  have := y.toNat_lt
  rw [top_bit, beq_eq_false_iff_ne]; omega
theorem top_bit_clear {y : UInt8} (h : y.toNat < 128) : (bits .and .u8 ((y.toNat : Nat) : Int) 128 == 0) = true := by
  rw [top_bit, beq_iff_eq]; omega

/-- The encoder's byte with its highest bit: as the walk writes it. -/
theorem enc_byte (m : Nat) (h : m < 18446744073709551616) : bits .or .u8 (bits .and .u64 (m : Int) 127 % 256) 128 = (((UInt8.ofNat (m % 128 + 128)).toNat : Nat) : Int) := by
  rw [and127_u64 m h, or128_u8 _ (by omega) (by omega), ofNat_toNat (by omega)]; omega
theorem enc_last (m : Nat) (h : m < 128) : bits .and .u64 (m : Int) 127 % 256 = (((UInt8.ofNat m).toNat : Nat) : Int) := by
  rw [and127_u64 m (by omega), ofNat_toNat (by omega)]; omega

/-! ### numbers with more bytes than they need -/
def hi (x : UInt8) : UInt8 := UInt8.ofNat (x.toNat % 128 + 128)
theorem hi_toNat (x : UInt8) : (hi x).toNat = x.toNat % 128 + 128 := by unfold hi; exact ofNat_toNat (by omega)

/-- k times: the last byte gets its highest bit, and 'fill' stands behind it. -/
def padN (fill : UInt8) : Nat → List UInt8 → List UInt8
  | 0, l => l
  | k + 1, l => padN fill k (l.set (l.length - 1) (hi (l.getD (l.length - 1) 0)) ++ [fill])

theorem padN_length (fill : UInt8) (k : Nat) : ∀ l, (padN fill k l).length = l.length + k := by
  induction k with
  | zero => intro l; rfl
  | succ k ih => intro l; rw [padN, ih]; simp; omega

theorem set_last (i : List UInt8) (x y : UInt8) : (i ++ [x]).set ((i ++ [x]).length - 1) y = i ++ [y] := by
  rw [List.length_append]; simp [List.set_append_right]
theorem getD_last (i : List UInt8) (x : UInt8) : (i ++ [x]).getD ((i ++ [x]).length - 1) 0 = x := by
  simp [List.getD]

theorem padN_snoc (fill : UInt8) (k : Nat) (i : List UInt8) (x : UInt8) : padN fill (k + 1) (i ++ [x]) = padN fill k (i ++ [hi x] ++ [fill]) := by
  rw [padN, set_last, getD_last]

theorem Ended_append {i : List UInt8} {x : UInt8} : Ended (i ++ [x]) ↔ (∀ y ∈ i, 128 ≤ y.toNat) ∧ x.toNat < 128 := by
  induction i with
  | nil => simp [Ended]
  | cons y i ih =>
    rw [List.cons_append, Ended_iff (by simp), ih]
    simp [and_assoc]

theorem uval_append (i j : List UInt8) : uval (i ++ j) = uval i + 128 ^ i.length * uval j := by
  induction i with
  | nil => simp [uval]
  | cons y i ih =>
    simp only [List.cons_append, uval, ih, List.length_cons, Nat.pow_succ, Nat.mul_add]
    rw [← Nat.mul_assoc, Nat.mul_comm 128 (128 ^ i.length)]; omega

theorem exists_snoc {l : List UInt8} (h : l ≠ []) : ∃ i x, l = i ++ [x] := ⟨l.dropLast, l.getLast h, (List.dropLast_concat_getLast h).symm⟩

theorem padN_ended (fill : UInt8) (hf : fill.toNat < 128) (k : Nat) : ∀ l, Ended l → Ended (padN fill k l) := by
  induction k with
  | zero => intro l h; exact h
  | succ k ih =>
    intro l h
    obtain ⟨i, x, rfl⟩ := exists_snoc (Ended_ne h)
    rw [padN_snoc]
    apply ih
    rw [Ended_append] at h ⊢
    refine ⟨fun y hy => ?_, hf⟩
    rcases List.mem_append.1 hy with hy | hy
    · exact h.1 y hy
    · simp at hy; subst hy; rw [hi_toNat]; omega

theorem padN_uval (k : Nat) : ∀ l, Ended l → uval (padN 0 k l) = uval l := by
  induction k with
  | zero => intro l h; rfl
  | succ k ih =>
    intro l h
    obtain ⟨i, x, rfl⟩ := exists_snoc (Ended_ne h)
    have h' := Ended_append.1 h
    rw [padN_snoc, ih]
    · rw [uval_append, uval_append, uval_append]
      simp [uval, hi_toNat]
    · rw [Ended_append]
      refine ⟨fun y hy => ?_, by decide⟩
      rcases List.mem_append.1 hy with hy | hy
      · exact h'.1 y hy
      · simp at hy; subst hy; rw [hi_toNat]; omega

theorem or_hi (x : UInt8) : bits .or .u8 ((x.toNat : Nat) : Int) 128 = (((hi x).toNat : Nat) : Int) := by
  rw [or128_u8 _ (by omega) (by have := x.toNat_lt; omega), hi_toNat]; omega

end Go.Proofs.YtahohmdfllgedaaGreat

namespace Go.Proofs.YtahohmdfllgedaaGreat
open Go.RowKit

/-- The answer of a function that makes bytes: v, which the program owns and which reads l. -/
def Made (l : List UInt8) (w : World) (e : Ending) (w' : World) : Prop :=
  ∃ a c, e = .returned (.slice a l.length c) ∧ w'.ownsRow w.heap.size 5 1 (.slice a l.length c) l.length (vbs l) ∧ Fr [] w w'

set_option maxRecDepth 100000 in
set_option maxHeartbeats 1000000 in
theorem Unsigned_any (n : Nat) (hn : n < 18446744073709551616) (w : World) :
    Calls Tryz.prog 18 #[.int .u64 (n : Int)] w (Made (uleb n) w) := by
  have Hn := Lib.hid hn
  clear hn
  go_enter Tryz.func18, Tryz.ntmps18
  go_wp2_with fail
  go_loopw [0, 3] (fun x v wr => ∃ m : Nat, ∃ l : List UInt8, ∃ a c, m < 18446744073709551616 ∧ x = .int .u64 (m : Int) ∧ v = .slice a l.length c ∧ l ++ uleb m = uleb n ∧
      wr.ownsRow w.heap.size 5 1 (.slice a l.length c) l.length (vbs l) ∧ Fr [] w wr) (fun x _ _ => (intOf x).toNat)
  case atStart => exact ⟨n, [], none, 0, Hn.out, rfl, rfl, rfl, World.ownsRow_nil _ _ _ _, Fr.refl _ _⟩
  case round =>
    obtain ⟨m, l, a, c, hm, rfl, rfl, hu, hown, hfr⟩ := hrel
    have Hu := Lib.hid hu
    have Hm := Lib.hid hm
    have Hown := Lib.hid hown
    have Hfr := Lib.hid hfr
    clear hu hown hfr hm
    by_cases hb : 128 ≤ m
    · have hx : bits .or .u8 ((m : Int) % 256) 128 = (((UInt8.ofNat (m % 128 + 128)).toNat : Nat) : Int) := by
        rw [or128_u8 _ (by omega) (by omega), ofNat_toNat (by omega)]; omega
      generalize hy : UInt8.ofNat (m % 128 + 128) = y at hx
      have Hy := Lib.hid hy
      clear hy
      have hlen : Hid (l.length ≤ 10) := by
        have h1 := uleb_le10 Hn.out; have h2 := congrArg List.length Hu.out; simp at h2; show _ ≤ _; omega
      go_wp2_with (at_builtin; go_must (refine wpList_app sliceB _ rfl _ _ rfl w.heap.size _ l.length (vbs l) rfl (Hown.out.alloc _) (some ⟨wr.heap.size, 0, none⟩) 1 1 [vb y] rfl rfl (fun h => by cases h) (news_one rfl _ _) (vbs_one [_]) ?_ (by decide) ?_ ?_))
      · have := hlen.out; omega
      · have := Hfr.out.size; simp; omega
      intro a' c' w1 ho1 hf1 hg1
      have Ho1 := Lib.hid ho1
      have Hf1 := Lib.hid hf1
      have Hg1 := Lib.hid hg1
      clear ho1 hf1 hg1
      go_wp2
      refine ⟨⟨m / 128, l ++ [y], a', c', ?_, ?_, by simp, ?_, ?_, ?_⟩, ?_⟩
      · have := Hm.out; omega
      · rw [Int.natCast_ediv]; rfl
      · rw [← Hu.out, uleb_big (n := m) (by omega), Hy.out]; simp
      · simpa using Ho1.out
      · exact (Hfr.out.alloc _).app Hown.out (Nat.le_refl _) Hf1.out
      · simp [intOf]; omega
    · obtain ⟨y, rfl⟩ : ∃ y : UInt8, m = y.toNat := ⟨UInt8.ofNat m, (ofNat_toNat (by omega)).symm⟩
      have hlen : Hid (l.length ≤ 10) := by
        have h1 := uleb_le10 Hn.out; have h2 := congrArg List.length Hu.out; simp at h2; show _ ≤ _; omega
      go_wp2_with (at_builtin; go_must (refine wpList_app sliceB _ rfl _ _ rfl w.heap.size _ l.length (vbs l) rfl (Hown.out.alloc _) (some ⟨wr.heap.size, 0, none⟩) 1 1 [vb y] rfl rfl (fun h => by cases h) (news_one rfl _ _) (vbs_one [_]) ?_ (by decide) ?_ ?_))
      · have := hlen.out; omega
      · have := Hfr.out.size; simp; omega
      intro a' c' w1 ho1 hf1 hg1
      have Ho1 := Lib.hid ho1
      have Hf1 := Lib.hid hf1
      clear ho1 hf1 hg1
      go_wp2
      go_ret
      have e : uleb n = l ++ [y] := by rw [← Hu.out, uleb_small (by omega)]; simp
      refine ⟨a', c', ?_, ?_, ?_⟩
      · rw [e]; simp
      · rw [e]; simpa using Ho1.out
      · exact (Hfr.out.alloc _).app Hown.out (Nat.le_refl _) Hf1.out

/-! ### leb128.EncodeUnsigned -/
end Go.Proofs.YtahohmdfllgedaaGreat

namespace Go.Proofs.YtahohmdfllgedaaGreat
open Go.RowKit

theorem run_app2 {P : Program} {t e : TypeId} {z : Value} {size bytes : Nat} (S : SliceT P t e z size bytes) (ty : TypeId) (w : World) (base : Nat)
    (v : Value) (n : Nat) (xs : List Value) (hown : w.ownsRow base e size v n xs)
    (ao : Option Addr) (m c : Nat) (news : List Value) (hl : news.length = m * size) (hnone : ao = none → m = 0 ∧ c = 0)
    (hnews : ∀ ad, ao = some ad → ∀ j u, news[j]? = some u → w.cell? (ad.add j) = some u) (h1 : ∀ u ∈ news, u.oneCell' = true)
    (hlen : n + m ≤ 1099511627776) (hb : bytes ≤ 64) (hbase : base ≤ w.heap.size) :
    ∃ v' w', (Builtin.append_ #[t, t] ty #[v, .slice ao m c]).run P w = .ok v' w' ∧ w'.ownsRow base e size v' (n + m) (xs ++ news) ∧ Fr v.ownBlock.toList w w' ∧
      (∀ g, v'.ownBlock = some g → v.ownBlock = some g ∨ w.heap.size ≤ g) := by
  obtain ⟨i, hi, hz, hs, hby⟩ := info_parts S.info
  cases ao with
  | none =>
    obtain ⟨rfl, rfl⟩ := hnone rfl
    have hnews' : news = [] := List.eq_nil_of_length_eq_zero (by simpa using hl)
    subst hnews'
    exact ⟨v, w, run_append_owned_none (P := P) w base t ty e i size S.und hi v n xs hown, by simpa using hown, Fr.refl _ _, fun g hg => .inl hg⟩
  | some ad =>
    have hm : n + m ≤ maxLen := by unfold maxLen; omega
    have hbb : (n + m) * bytes ≤ 140737488355328 := Nat.le_trans (Nat.mul_le_mul hlen hb) (by decide)
    obtain ⟨v', w', hr, ho, hg, _⟩ := run_append_own (P := P) w base t ty e i z size bytes S.und hi hz hs hby S.zs S.pos v n xs hown ad m c news hl (hnews ad rfl) h1 hm hbb hbase
    refine ⟨v', w', hr, ho, grown_fr hg, fun g hgv => ?_⟩
    have hdet : ∀ v'' w'', (Builtin.append_ #[t, t] ty #[v, .slice (some ad) m c]).run P w = .ok v'' w'' → v'' = v' := by
      intro v'' w'' h2; rw [hr] at h2; cases h2; rfl
    rcases hown.2 with ⟨rfl, rfl⟩ | ⟨b, cap, cur, rfl, hbg, hhb, hnc, hcm, hcs, htake⟩
    · have hx : xs = [] := List.eq_nil_of_length_eq_zero (by simpa using hown.1)
      subst hx
      obtain ⟨v2, w2, hr2, ho2, _, _⟩ := run_append_own (P := P) w w.heap.size t ty e i z size bytes S.und hi hz hs hby S.zs S.pos _ 0 [] (World.ownsRow_nil w _ e size) ad m c news hl (hnews ad rfl) h1 hm hbb (Nat.le_refl _)
      obtain rfl := hdet _ _ hr2
      exact .inr (ho2.lt g hgv).1
    · by_cases hroom : n + m ≤ cap
      · have hfit : n * i.size + news.length ≤ cur.size := by rw [hl, hcs, hs, ← Nat.add_mul]; exact Nat.mul_le_mul_right _ hroom
        have h2 := run_append_room (P := P) w t ty e i S.und hi b n cap cur hhb ad m c news (by rw [hs]; exact hl) (hnews ad rfl) h1 hroom hfit
        obtain rfl := hdet _ _ h2
        exact .inl (by simpa [Value.ownBlock] using hgv)
      · have holds : ∀ j u, xs[j]? = some u → w.cell? ((⟨b, 0, none⟩ : Addr).add j) = some u := hown.cells (g := b) rfl
        have h2 := run_append_grow (P := P) w t ty e i z S.und hi hz ⟨b, 0, none⟩ n cap xs (by rw [hs]; exact hown.1) holds ad m c news (by rw [hs]; exact hl) (hnews ad rfl) (by omega) (by omega) (growslice_fits (by omega) (by rw [hby]; exact hbb))
        obtain rfl := hdet _ _ h2
        right; simp [Value.ownBlock] at hgv; omega

theorem wpList_app2 {P : Program} {t e : TypeId} {z : Value} {size bytes : Nat} (S : SliceT P t e z size bytes) (w : World) {ops : Array Oper} {rest : List Oper} {o : Oper} {a : Act} {Q : Exit → Act → World → Prop}
    (hgd : o.guard = none) (s x : Operand) (ho : o.op = .call { callee := .builtin .append, args := #[s, x], argTypes := #[t, t] }) (base : Nat)
    (v : Value) (n : Nat) (xs : List Value) (hs : a.eval s = v) (hown : w.ownsRow base e size v n xs)
    (ao : Option Addr) (m c : Nat) (news : List Value) (hx : a.eval x = .slice ao m c) (hl : news.length = m * size) (hnone : ao = none → m = 0 ∧ c = 0)
    (hnews : ∀ ad, ao = some ad → ∀ j u, news[j]? = some u → w.cell? (ad.add j) = some u) (h1 : ∀ u ∈ news, u.oneCell' = true)
    (hlen : n + m ≤ 1099511627776) (hb : bytes ≤ 64) (hbase : base ≤ w.heap.size)
    (h : ∀ a' c' w', w'.ownsRow base e size (.slice a' (n + m) c') (n + m) (xs ++ news) → Fr v.ownBlock.toList w w' → (∀ g, (Value.slice a' (n + m) c').ownBlock = some g → v.ownBlock = some g ∨ w.heap.size ≤ g) →
      wpList P ops Q rest (a.put o.dst (.slice a' (n + m) c')) w') :
    wpList P ops Q (o :: rest) a w := by
  refine wpList_plain hgd fun K hK => ?_
  obtain ⟨v', w', hr, h2, h3, h4⟩ := run_app2 (P := P) S o.type w base v n xs hown ao m c news hl hnone hnews h1 hlen hb hbase
  unfold Oper.wp execOp
  simp only [ho, resolve, invoke, builtin, Sem.run_bind, Sem.run_pure, Result.andThen_ok, List.map_toArray, List.map_cons, List.map_nil, hs, hx, hr]
  obtain ⟨a', c', rfl⟩ := own_slice h2
  exact hK _ _ (h a' c' w' h2 h3 h4)

theorem step_app2 {P : Program} {t e : TypeId} {z : Value} {size bytes : Nat} (S : SliceT P t e z size bytes) (w : World) {ops : Array Oper} {o : Oper} {a : Act} {K : Act → World → Prop} {Q : Exit → Act → World → Prop} {E : Prop}
    (hgd : o.guard = none) (s x : Operand) (ho : o.op = .call { callee := .builtin .append, args := #[s, x], argTypes := #[t, t] }) (base : Nat)
    (v : Value) (n : Nat) (xs : List Value) (hs : a.eval s = v) (hown : w.ownsRow base e size v n xs)
    (ao : Option Addr) (m c : Nat) (news : List Value) (hx : a.eval x = .slice ao m c) (hl : news.length = m * size) (hnone : ao = none → m = 0 ∧ c = 0)
    (hnews : ∀ ad, ao = some ad → ∀ j u, news[j]? = some u → w.cell? (ad.add j) = some u) (h1 : ∀ u ∈ news, u.oneCell' = true)
    (hlen : n + m ≤ 1099511627776) (hb : bytes ≤ 64) (hbase : base ≤ w.heap.size)
    (h : ∀ a' c' w', w'.ownsRow base e size (.slice a' (n + m) c') (n + m) (xs ++ news) → Fr v.ownBlock.toList w w' → (∀ g, (Value.slice a' (n + m) c').ownBlock = some g → v.ownBlock = some g ∨ w.heap.size ≤ g) →
      K (a.put o.dst (.slice a' (n + m) c')) w') :
    if Region.wanted o (yielded ops a.tmps) = true then Oper.wp P o a w K Q else E := by
  have hw : Region.wanted o (yielded ops a.tmps) = true := by simp [Region.wanted, hgd]
  rw [if_pos hw]
  obtain ⟨v', w', hr, h2, h3, h4⟩ := run_app2 (P := P) S o.type w base v n xs hown ao m c news hl hnone hnews h1 hlen hb hbase
  unfold Oper.wp execOp
  simp only [ho, resolve, invoke, builtin, Sem.run_bind, Sem.run_pure, Result.andThen_ok, List.map_toArray, List.map_cons, List.map_nil, hs, hx, hr]
  obtain ⟨a', c', rfl⟩ := own_slice h2
  exact h a' c' w' h2 h3 h4


/-- The cells of a block that is known whole. -/
theorem news_blk {w : World} {b : Nat} {cs : Array Value} {t : TypeId} {fz : Nat × Nat} (h : w.heap[b]? = some (.cells cs t fz)) :
    ∀ ad, some (⟨b, 0, none⟩ : Addr) = some ad → ∀ j u, cs.toList[j]? = some u → w.cell? (ad.add j) = some u := by
  intro ad had j u hu
  obtain rfl := Option.some.inj had
  rw [Addr.add_lit, Nat.zero_add, blk_cell h]
  simpa using hu

end Go.Proofs.YtahohmdfllgedaaGreat

namespace Go.Proofs.YtahohmdfllgedaaGreat
open Go.RowKit

def leL (n : Nat) : Nat → List UInt8
  | 0 => []
  | k + 1 => UInt8.ofNat (n % 256) :: leL (n / 256) k

theorem leL_length (k : Nat) : ∀ n, (leL n k).length = k := by
  induction k with
  | zero => intro n; rfl
  | succ k ih => intro n; simp [leL, ih]

theorem leL_take (k : Nat) : ∀ m, leL m (k + 1) = leL m k ++ [UInt8.ofNat (m / 256 ^ k % 256)] := by
  induction k with
  | zero => intro m; simp [leL]
  | succ k ih =>
    intro m
    rw [leL, ih (m / 256)]
    rw [show leL m (k + 1) = UInt8.ofNat (m % 256) :: leL (m / 256) k from rfl]
    rw [Nat.div_div_eq_div_mul, Nat.pow_succ, Nat.mul_comm 256]
    rfl

set_option maxRecDepth 100000 in
set_option maxHeartbeats 1000000 in
theorem Little_any (n k : Nat) (hn : n < 18446744073709551616) (hk : k ≤ 8) (w : World) :
    Calls Tryz.prog 17 #[.int .u64 (n : Int), .int .i64 (k : Int)] w (Made (leL n k) w) := by
  have Hn := Lib.hid hn
  clear hn
  go_enter Tryz.func17, Tryz.ntmps17
  go_wp2_with fail
  go_loopw [0, 5, 7] (fun x v i wr => ∃ j : Nat, ∃ a c, j ≤ k ∧ i = .int .i64 (j : Int) ∧ x = .int .u64 ((n / 256 ^ j : Nat) : Int) ∧ v = .slice a j c ∧
      wr.ownsRow w.heap.size 5 1 (.slice a j c) j (vbs (leL n j)) ∧ Fr [] w wr) (fun _ _ i _ => k - (intOf i).toNat)
  case atStart => exact ⟨0, none, 0, Nat.zero_le _, rfl, by simp, rfl, World.ownsRow_nil _ _ _ _, Fr.refl _ _⟩
  case round =>
    obtain ⟨j, a, c, hj, rfl, rfl, rfl, hown, hfr⟩ := hrel
    have Hown := Lib.hid hown
    have Hfr := Lib.hid hfr
    clear hown hfr
    by_cases hlt : j < k
    case neg =>
      obtain rfl : j = k := by omega
      clear hlt
      go_wp2
      go_ret
      exact ⟨a, c, by rw [leL_length]; rfl, by rw [leL_length]; exact Hown.out, Hfr.out⟩
    case pos =>
      obtain ⟨m, hm⟩ : ∃ m, m = n / 256 ^ j := ⟨_, rfl⟩
      have hm2 : m < 18446744073709551616 := by rw [hm]; exact Nat.lt_of_le_of_lt (Nat.div_le_self _ _) Hn.out
      have hb : (m : Int) % 256 = (((UInt8.ofNat (m % 256)).toNat : Nat) : Int) := by
        rw [ofNat_toNat (by omega)]; omega
      generalize hy : UInt8.ofNat (m % 256) = y at hb
      rw [← hm]
      have Hm := Lib.hid hm
      have Hm2 := Lib.hid hm2
      have Hy := Lib.hid hy
      clear hm hy hm2
      go_wp2_with (at_builtin; go_must (refine wpList_app sliceB _ rfl _ _ rfl w.heap.size _ j (vbs (leL n j)) rfl (Hown.out.alloc _) (some ⟨wr.heap.size, 0, none⟩) 1 1 [vb y] rfl rfl (fun h => by cases h) (news_one rfl _ _) (vbs_one [_]) ?_ (by decide) ?_ ?_))
      · omega
      · have := Hfr.out.size; simp; omega
      intro a' c' w1 ho1 hf1 hg1
      have Ho1 := Lib.hid ho1
      have Hf1 := Lib.hid hf1
      clear ho1 hf1 hg1
      go_wp2
      refine ⟨⟨j + 1, a', c', by omega, by go_num, ?_, rfl, ?_, ?_⟩, ?_⟩
      · rw [Nat.pow_succ, ← Nat.div_div_eq_div_mul, ← Hm.out]; simp [Int.natCast_ediv]
      · rw [leL_take, ← Hm.out, Hy.out]; simpa using Ho1.out
      · exact (Hfr.out.alloc _).app Hown.out (Nat.le_refl _) Hf1.out
      · simp [intOf]; omega
end Go.Proofs.YtahohmdfllgedaaGreat

namespace Go.Proofs.YtahohmdfllgedaaGreat
open Go.RowKit

def sleb (n : Int) : List UInt8 :=
  if h : -64 ≤ n ∧ n ≤ 63 then [UInt8.ofNat (n % 128).toNat] else UInt8.ofNat ((n % 128).toNat + 128) :: sleb (n / 128)
termination_by n.natAbs
decreasing_by omega

theorem sleb_small {n : Int} (h : -64 ≤ n ∧ n ≤ 63) : sleb n = [UInt8.ofNat (n % 128).toNat] := by rw [sleb, dif_pos h]
theorem sleb_big {n : Int} (h : ¬ (-64 ≤ n ∧ n ≤ 63)) : sleb n = UInt8.ofNat ((n % 128).toNat + 128) :: sleb (n / 128) := by rw [sleb, dif_neg h]

theorem sleb_pos (n : Int) : 0 < (sleb n).length := by
  by_cases h : -64 ≤ n ∧ n ≤ 63
  · rw [sleb_small h]; simp
  · rw [sleb_big h]; simp

theorem sleb_le (k : Nat) : ∀ n : Int, -(64 * 128 ^ k : Nat) ≤ n → n < (64 * 128 ^ k : Nat) → (sleb n).length ≤ k + 1 := by
  induction k with
  | zero => intro n h1 h2; rw [sleb_small (by simp at h1 h2; omega)]; simp
  | succ k ih =>
    intro n h1 h2
    by_cases h : -64 ≤ n ∧ n ≤ 63
    · rw [sleb_small h]; simp
    · rw [sleb_big h]
      have e : 64 * 128 ^ (k + 1) = 128 * (64 * 128 ^ k) := by rw [Nat.pow_succ]; rw [← Nat.mul_assoc, ← Nat.mul_assoc, Nat.mul_comm (64 * 128 ^ k) 128, Nat.mul_assoc]
      rw [e] at h1 h2
      have := ih (n / 128) (by omega) (by omega)
      simp; omega

theorem sleb_le10 {n : Int} (h1 : -9223372036854775808 ≤ n) (h2 : n ≤ 9223372036854775807) : (sleb n).length ≤ 10 := sleb_le 9 n (by omega) (by omega)

theorem sleb_ended (n : Int) : Ended (sleb n) := by
  generalize hm : n.natAbs = m
  induction m using Nat.strongRecOn generalizing n with
  | _ m ih =>
    by_cases h : -64 ≤ n ∧ n ≤ 63
    · rw [sleb_small h]; show (UInt8.ofNat _).toNat < 128; rw [ofNat_toNat (by omega)]; omega
    · rw [sleb_big h]
      exact Ended_cons (by rw [ofNat_toNat (by omega)]; omega) (ih (n / 128).natAbs (by omega) _ rfl)

/-- Its value with a sign, without a bound: the last byte is x. -/
def sval (l : List UInt8) : Int := (uval l : Int) - (if 64 ≤ (l.getD (l.length - 1) 0).toNat % 128 then ((128 ^ l.length : Nat) : Int) else 0)

theorem sval_snoc (i : List UInt8) (x : UInt8) : sval (i ++ [x]) = (uval i : Int) + ((128 ^ i.length : Nat) : Int) * ((x.toNat % 128 : Nat) - (if 64 ≤ x.toNat % 128 then 128 else 0) : Int) := by
  unfold sval
  rw [getD_last, uval_append]
  simp only [uval, Nat.mul_zero, Nat.add_zero, List.length_append, List.length_cons, List.length_nil]
  rw [Nat.pow_succ]
  split
  · rw [Int.mul_sub]; push_cast; omega
  · rw [Int.sub_zero, Int.sub_zero]; push_cast; rfl

theorem sval_cons (y : UInt8) (l : List UInt8) (hl : l ≠ []) : sval (y :: l) = ((y.toNat % 128 : Nat) : Int) + 128 * sval l := by
  obtain ⟨i, x, rfl⟩ := exists_snoc hl
  rw [← List.cons_append, sval_snoc, sval_snoc]
  simp only [uval, List.length_cons, Nat.pow_succ]
  rw [Int.mul_add]
  push_cast
  rw [show ((128 : Int) ^ i.length * 128) = 128 * 128 ^ i.length by rw [Int.mul_comm], Int.mul_assoc]
  omega

theorem sval_sleb (n : Int) : sval (sleb n) = n := by
  generalize hm : n.natAbs = m
  induction m using Nat.strongRecOn generalizing n with
  | _ m ih =>
    by_cases h : -64 ≤ n ∧ n ≤ 63
    · rw [sleb_small h]
      have := sval_snoc [] (UInt8.ofNat (n % 128).toNat)
      rw [List.nil_append] at this
      rw [this, ofNat_toNat (by omega)]
      simp only [uval, List.length_nil, Nat.pow_zero]
      split <;> omega
    · rw [sleb_big h, sval_cons _ _ (Ended_ne (sleb_ended _)), ih (n / 128).natAbs (by omega) _ rfl, ofNat_toNat (by omega)]
      omega

/-- What fills a number with a sign. -/
def fillOf (l : List UInt8) : UInt8 := if 64 ≤ (l.getD (l.length - 1) 0).toNat % 128 then 127 else 0

theorem padN_sval (fill : UInt8) (k : Nat) : ∀ l, Ended l → fill = fillOf l → sval (padN fill k l) = sval l := by
  induction k with
  | zero => intro l _ _; rfl
  | succ k ih =>
    intro l h hf
    obtain ⟨i, x, rfl⟩ := exists_snoc (Ended_ne h)
    have h' := Ended_append.1 h
    have hfill : fill.toNat < 128 := by rw [hf]; unfold fillOf; split <;> decide
    have hf2 : fillOf (i ++ [hi x] ++ [fill]) = fill := by
      unfold fillOf at hf ⊢
      rw [getD_last] at hf ⊢
      subst hf
      split <;> decide
    rw [padN_snoc, ih _ _ hf2.symm]
    · rw [sval_snoc, sval_snoc, uval_append]
      unfold fillOf at hf
      rw [getD_last] at hf
      simp only [uval, hi_toNat, List.length_append, List.length_cons, List.length_nil, Nat.pow_succ, Nat.mul_zero, Nat.add_zero]
      subst hf
      have hmm : (x.toNat % 128 + 128) % 128 = x.toNat % 128 := by omega
      rw [hmm]
      have e1 : (127 : UInt8).toNat = 127 := rfl
      have e0 : (0 : UInt8).toNat = 0 := rfl
      generalize x.toNat % 128 = r
      push_cast
      generalize (128 : Int) ^ i.length = P
      by_cases hx : 64 ≤ r
      · simp only [if_pos hx, e1]
        rw [if_pos (by decide)]
        simp only [Int.mul_sub]
        omega
      · simp only [if_neg hx, e0]
        rw [if_neg (by decide)]
        simp
    · rw [Ended_append]
      refine ⟨fun y hy => ?_, hfill⟩
      rcases List.mem_append.1 hy with hy | hy
      · exact h'.1 y hy
      · simp at hy; subst hy; rw [hi_toNat]; omega
theorem fillOf_lt (l : List UInt8) : (fillOf l).toNat < 128 := by unfold fillOf; split <;> decide
theorem fillOf_cases (l : List UInt8) : (true = false ∧ fillOf l = 0) ∨ (true = true ∧ (l.getD (l.length - 1) 0).toNat % 128 < 64 ∧ fillOf l = 0) ∨ (true = true ∧ 64 ≤ (l.getD (l.length - 1) 0).toNat % 128 ∧ fillOf l = 127) := by
  unfold fillOf
  by_cases h : 64 ≤ (l.getD (l.length - 1) 0).toNat % 128
  · exact .inr (.inr ⟨rfl, h, if_pos h⟩)
  · exact .inr (.inl ⟨rfl, by omega, if_neg h⟩)
theorem wrap64_id {n : Int} (h1 : -9223372036854775808 ≤ n) (h2 : n ≤ 9223372036854775807) : wrap64 n = n := by unfold wrap64; omega

/-! ### bits of a signed number of 64 bits -/
theorem ofInt64_toNat (x : Int) : (BitVec.ofInt 64 x).toNat = (x % 18446744073709551616).toNat := by
  rw [BitVec.toNat_ofInt]; rfl

theorem i64_and_nat {x y : Int} {a b : Nat} (hx : x % 18446744073709551616 = (a : Int)) (hy : y % 18446744073709551616 = (b : Int)) :
    bits .and .i64 x y = IntKind.i64.wrap ((a &&& b : Nat) : Int) := by
  show IntKind.i64.wrap (((BitVec.ofInt 64 x &&& BitVec.ofInt 64 y : BitVec 64).toNat : Nat) : Int) = _
  rw [BitVec.toNat_and, ofInt64_toNat, ofInt64_toNat, hx, hy, Int.toNat_natCast, Int.toNat_natCast]
theorem i64_or_nat {x y : Int} {a b : Nat} (hx : x % 18446744073709551616 = (a : Int)) (hy : y % 18446744073709551616 = (b : Int)) :
    bits .or .i64 x y = IntKind.i64.wrap ((a ||| b : Nat) : Int) := by
  show IntKind.i64.wrap (((BitVec.ofInt 64 x ||| BitVec.ofInt 64 y : BitVec 64).toNat : Nat) : Int) = _
  rw [BitVec.toNat_or, ofInt64_toNat, ofInt64_toNat, hx, hy, Int.toNat_natCast, Int.toNat_natCast]

theorem wrap_i64_eq (n : Int) : IntKind.i64.wrap n = wrap64 n := by
  unfold IntKind.wrap wrap64
  simp only [IntKind.bits, IntKind.signed, Bool.true_and]
  split <;> rename_i h <;> simp at h <;> omega

theorem and127_i64 (m : Int) : bits .and .i64 m 127 = m % 128 := by
  obtain ⟨a, ha⟩ := Int.eq_ofNat_of_zero_le (show 0 ≤ m % 18446744073709551616 by omega)
  rw [i64_and_nat ha (b := 127) (by decide), nat_mask7, wrap_i64_eq]
  unfold wrap64; omega

/-- One round of the signed decoder. -/
theorem sdec_step (u k : Nat) (y : UInt8) (hk : k ≤ 9) (hu : u < 128 ^ k) :
    bits .or .i64 (wrap64 (u : Int)) (wrap64 (bits .and .i64 (wrap64 ((y.toNat : Nat) : Int)) 127 * 2 ^ (7 * k))) = wrap64 ((u + y.toNat % 128 * 128 ^ k : Nat) : Int) := by
  have e0 : wrap64 ((y.toNat : Nat) : Int) = ((y.toNat : Nat) : Int) := by have := y.toNat_lt; unfold wrap64; omega
  rw [e0]
  have hmod : ∀ n : Nat, (wrap64 (n : Int)) % 18446744073709551616 = ((n % M64 : Nat) : Int) := by intro n; unfold wrap64 M64; omega
  have e1 : bits .and .i64 ((y.toNat : Nat) : Int) 127 * 2 ^ (7 * k) = ((y.toNat % 128 * 2 ^ (7 * k) : Nat) : Int) := by
    rw [and127_i64]; push_cast; rfl
  rw [e1, i64_or_nat (hmod u) (hmod _), dec_step_nat u _ k hk hu, wrap_i64_eq]
  unfold wrap64 M64; omega

theorem neg_wrap (A : Nat) (hle : 2 * A ≤ 18446744073709551616) (hp : 0 < A) : (wrap64 (-(wrap64 (A : Int)))) % 18446744073709551616 = ((18446744073709551616 - A : Nat) : Int) := by
  unfold wrap64; omega
theorem add_wrap (u A : Nat) (hle : 2 * A ≤ 18446744073709551616) : wrap64 ((18446744073709551616 - A + u : Nat) : Int) = wrap64 ((u : Int) - (A : Int)) := by
  unfold wrap64; omega

/-- The last step of the signed decoder: the sign. -/
def shl1 (L : Nat) : Int := wrap64 (2 ^ (min (7 * L) 64))
theorem sdec_last (u L : Nat) (h1 : 1 ≤ L) (hL : L ≤ 10) (hu : u < 128 ^ L) :
    bits .or .i64 (wrap64 (u : Int)) (wrap64 (-(shl1 L))) = wrap64 ((u : Int) - ((128 ^ L : Nat) : Int)) := by
  have hmod : (wrap64 (u : Int)) % 18446744073709551616 = ((u % M64 : Nat) : Int) := by unfold wrap64 M64; omega
  by_cases h10 : L = 10
  · subst h10
    have e : (wrap64 (-(shl1 10))) % 18446744073709551616 = ((0 : Nat) : Int) := by decide +kernel
    rw [i64_or_nat hmod e, Nat.or_zero, wrap_i64_eq]
    unfold wrap64 M64; omega
  · have h7 : 128 ^ L = 2 ^ (7 * L) := by rw [Nat.pow_mul]
    have hs := M64_split L (by omega)
    have hmin : min (7 * L) 64 = 7 * L := by omega
    unfold shl1
    rw [hmin]
    have hp : 0 < 2 ^ (7 * L) := Nat.two_pow_pos _
    have hq : 2 ≤ 2 ^ (64 - 7 * L) := by
      have : 2 ^ 1 ≤ 2 ^ (64 - 7 * L) := Nat.pow_le_pow_right (by decide) (by omega)
      simpa using this
    have hA : ((2 : Int) ^ (7 * L)) = ((2 ^ (7 * L) : Nat) : Int) := by push_cast; rfl
    rw [hA]
    rw [h7] at hu ⊢
    have hj := nat_join (7 * L) (M64 - 2 ^ (7 * L)) u (by rw [hs, ← Nat.mul_sub_one, Nat.mul_mod_right]) hu
    have hle : 2 * 2 ^ (7 * L) ≤ M64 := by rw [hs, Nat.mul_comm]; exact Nat.mul_le_mul_left _ hq
    generalize 2 ^ (7 * L) = A at *
    clear hs hA
    have hM : M64 = 18446744073709551616 := rfl
    have e := neg_wrap A (by rw [hM] at hle; exact hle) hp
    rw [i64_or_nat hmod e, Nat.mod_eq_of_lt (show u < M64 by omega)]
    rw [← hM, Nat.or_comm, hj, wrap_i64_eq, hM]
    rw [hM] at hle
    exact add_wrap u A hle

theorem bit6_pos {y : UInt8} (h : 64 ≤ y.toNat % 128) : (0 : Int) < bits .and .u8 ((y.toNat : Nat) : Int) 64 := by rw [bit6]; omega
theorem bit6_neg {y : UInt8} (h : ¬ 64 ≤ y.toNat % 128) : ¬ (0 : Int) < bits .and .u8 ((y.toNat : Nat) : Int) 64 := by rw [bit6]; omega

/-- The encoder's byte, as the walk writes it. -/
theorem senc_byte (m : Int) : bits .and .i64 m 127 % 256 = (((UInt8.ofNat (m % 128).toNat).toNat : Nat) : Int) := by
  rw [and127_i64, ofNat_toNat (by omega)]; omega

end Go.Proofs.YtahohmdfllgedaaGreat

namespace Go.Proofs.YtahohmdfllgedaaGreat
open Go.RowKit

/-- A number's 64 bits. -/
def u64of (x : Int) : Nat := (x % 18446744073709551616).toNat
theorem u64of_lt (x : Int) : u64of x < 18446744073709551616 := by unfold u64of; omega
theorem u64of_cast (x : Int) : x % 18446744073709551616 = ((u64of x : Nat) : Int) := by unfold u64of; omega

def opnd (data : List UInt8) (ch : UInt8) (x : Int) : List UInt8 :=
  if ch = 117 then uleb (u64of x) else if ch = 115 then sleb x else if ch = 97 then leL (u64of x) 8
  else if ch = 98 then uleb data.length ++ data else leL (u64of x) (ch.toNat - 48)
def opnds (data : List UInt8) : List UInt8 → List Int → List UInt8
  | ch :: s, x :: xs => opnd data ch x ++ opnds data s xs
  | _, _ => []
theorem opnds_take (data : List UInt8) : ∀ (s : List UInt8) (xs : List Int) (i : Nat) (h : i < s.length) (h' : i < xs.length), opnds data (s.take (i + 1)) xs = opnds data (s.take i) xs ++ opnd data s[i] xs[i]
  | ch :: s, x :: xs, 0, _, _ => by cases s <;> simp [opnds]
  | ch :: s, x :: xs, i + 1, h, h' => by
    simp only [List.take_succ_cons, opnds, List.getElem_cons_succ]
    rw [opnds_take data s xs i (by simpa using h) (by simpa using h'), List.append_assoc]
  | [], _, _, h, _ => by simp at h
  | _ :: _, [], _, _, h' => by simp at h'

def argsOf (c : LCall) : List Int := if c.op = 128 then [c.b] else [c.a, c.b]
def headB (c : LCall) : UInt8 := if c.op = 64 ∨ c.op = 192 ∨ c.op = 128 then UInt8.ofNat (c.op + c.a).toNat else UInt8.ofNat c.op.toNat
def callL (c : LCall) : List UInt8 := headB c :: opnds c.data (shape c.op).1 (argsOf c)
def callsL (l : List LCall) : List UInt8 := l.flatMap callL

theorem callsL_take (l : List LCall) (k : Nat) (hk : k < l.length) : callsL (l.take (k + 1)) = callsL (l.take k) ++ callL l[k] := by
  rw [callsL, List.take_succ_eq_append_getElem hk, List.flatMap_append]; simp [callsL]

/-- The signs that stand in a shape. -/
def sign (ch : UInt8) : Prop := ch = 117 ∨ ch = 115 ∨ ch = 97 ∨ ch = 98 ∨ ch = 49 ∨ ch = 50 ∨ ch = 52
theorem shape_none {op : Int} (h : (shape op).2 = false) : (shape op).1 = [] := by
  by_cases hop : op = 64 ∨ op = 192 ∨ op = 128 ∨ op = 0 ∨ op = 10 ∨ op = 11 ∨ op = 1 ∨ op = 2 ∨ op = 3 ∨ op = 4 ∨ op = 5 ∨ op = 9 ∨ op = 12 ∨ op = 20 ∨
    op = 6 ∨ op = 7 ∨ op = 8 ∨ op = 13 ∨ op = 14 ∨ op = 15 ∨ op = 16 ∨ op = 22 ∨ op = 17 ∨ op = 18 ∨ op = 21 ∨ op = 19
  · rcases hop with rfl | rfl | rfl | rfl | rfl | rfl | rfl | rfl | rfl | rfl | rfl | rfl | rfl | rfl | rfl | rfl | rfl | rfl | rfl | rfl | rfl | rfl | rfl | rfl | rfl | rfl
    all_goals (revert h; decide)
  · unfold shape; repeat (rw [if_neg (by omega)])
theorem shape_signs (op : Int) : ∀ ch ∈ (shape op).1, sign ch := by
  rcases op_cases op with h | h
  · rw [shape_none h]; simp
  · rcases h with rfl | rfl | rfl | rfl | rfl | rfl | rfl | rfl | rfl | rfl | rfl | rfl | rfl | rfl | rfl | rfl | rfl | rfl | rfl | rfl | rfl | rfl | rfl | rfl | rfl | rfl
    all_goals simp [shape, sign]
theorem shape_len (op : Int) : (shape op).1.length ≤ 2 := by
  rcases op_cases op with h | h
  · rw [shape_none h]; simp
  · rcases h with rfl | rfl | rfl | rfl | rfl | rfl | rfl | rfl | rfl | rfl | rfl | rfl | rfl | rfl | rfl | rfl | rfl | rfl | rfl | rfl | rfl | rfl | rfl | rfl | rfl | rfl
    all_goals decide
theorem shape128 : (shape 128).1 = [117] := by decide
theorem shape_args (c : LCall) : (shape c.op).1.length ≤ (argsOf c).length := by
  unfold argsOf; split
  · rename_i h; rw [h, shape128]; simp
  · exact shape_len _

theorem opnd_len (data : List UInt8) (hd : data.length ≤ 60) (ch : UInt8) (hs : sign ch) (x : Int) (hx : i64 x) : (opnd data ch x).length ≤ 70 := by
  have h1 := uleb_le10 (u64of_lt x)
  have h2 := sleb_le10 hx.1 hx.2
  have h3 := uleb_le10 (n := data.length) (by omega)
  rcases hs with rfl | rfl | rfl | rfl | rfl | rfl | rfl
  all_goals simp [opnd, leL_length]
  all_goals omega
theorem args_i64 (c : LCall) (h1 : i64 c.a) (h2 : i64 c.b) : ∀ x ∈ argsOf c, i64 x := by
  unfold argsOf; intro x hx; split at hx
  · simp at hx; subst hx; exact h2
  · simp at hx; rcases hx with rfl | rfl
    · exact h1
    · exact h2

theorem opnds_len (data : List UInt8) (hd : data.length ≤ 60) : ∀ (s : List UInt8) (xs : List Int), (∀ ch ∈ s, sign ch) → (∀ x ∈ xs, i64 x) → (opnds data s xs).length ≤ 70 * s.length
  | ch :: s, x :: xs, h, h' => by
    have h1 := opnd_len data hd ch (h ch (by simp)) x (h' x (by simp))
    have h2 := opnds_len data hd s xs (fun c hc => h c (by simp [hc])) (fun c hc => h' c (by simp [hc]))
    simp [opnds]; omega
  | [], _, _, _ => by simp [opnds]
  | _ :: _, [], _, _ => by simp [opnds]
theorem callL_len (c : LCall) (hr : callRightB c.op c.a c.b c.data.length = true) (h1 : i64 c.a) (h2 : i64 c.b) : (callL c).length ≤ 141 := by
  have hd : c.data.length ≤ 60 := by simp [callRightB] at hr; exact hr.1.2
  have h3 := opnds_len c.data hd (shape c.op).1 (argsOf c) (shape_signs _) (args_i64 c h1 h2)
  have h4 := shape_len c.op
  simp [callL]; omega

end Go.Proofs.YtahohmdfllgedaaGreat

namespace Go.Proofs.YtahohmdfllgedaaGreat
open Go.RowKit

/-- How many noughts fill an entry. -/
def padK (n : Nat) : Nat := (8 - (n + 4) % 8) % 8
def padL (l : List UInt8) : List UInt8 := leL (l.length + padK l.length) 4 ++ (l ++ List.replicate (padK l.length) 0)
/-- A common entry's bytes, a frame's bytes ('at' is where its common entry lies). -/
def cieL (c : LCommon) : List UInt8 := leL 4294967295 4 ++ [UInt8.ofNat c.version.toNat, 0] ++ uleb c.code ++ sleb c.offset ++ uleb c.ret.toNat ++ callsL c.calls
def fdeL (start : Nat) (f : LFrame) : List UInt8 := leL start 4 ++ leL f.start 8 ++ leL f.size 8 ++ callsL f.calls
def entL (start : Nat) (c : LCommon) : List UInt8 := padL (cieL c) ++ c.frames.flatMap fun f => padL (fdeL start f)
/-- The section behind 'done' bytes. -/
def secFrom : Nat → List LCommon → List UInt8
  | _, [] => []
  | n, c :: cs => entL n c ++ secFrom (n + (entL n c).length) cs
def sectionL (l : List LCommon) : List UInt8 := secFrom 0 l

theorem secFrom_take (l : List LCommon) : ∀ (n k : Nat) (hk : k < l.length), secFrom n (l.take (k + 1)) = secFrom n (l.take k) ++ entL (n + (secFrom n (l.take k)).length) l[k] := by
  induction l with
  | nil => intro n k hk; simp at hk
  | cons c cs ih =>
    intro n k hk
    cases k with
    | zero => cases cs <;> simp [secFrom]
    | succ k =>
      have := ih (n + (entL n c).length) k (by simpa using hk)
      simp only [List.take_succ_cons, secFrom, List.getElem_cons_succ, this, List.append_assoc, List.length_append, Nat.add_assoc]

theorem padL_len (l : List UInt8) : (padL l).length ≤ l.length + 12 := by
  simp [padL, leL_length, padK]; omega

theorem callsL_len (l : List LCall) (h : ∀ c ∈ l, (callL c).length ≤ 141) : (callsL l).length ≤ 141 * l.length := by
  induction l with
  | nil => simp [callsL]
  | cons c cs ih =>
    have h1 := h c (by simp)
    have h2 := ih (fun x hx => h x (by simp [hx]))
    simp [callsL] at h2 ⊢
    omega
end Go.Proofs.YtahohmdfllgedaaGreat

namespace Go.Proofs.YtahohmdfllgedaaGreat
open Go.RowKit

theorem m_Len (b : Nat) (w : World) : (method 334 83 (.pointer (some ⟨b, 0, none⟩)) "Len").run Tryz.prog w = .ok (41, .pointer (some ⟨b, 0, none⟩)) w := by kernel_rfl
theorem m_ReadByte (b : Nat) (w : World) : (method 334 83 (.pointer (some ⟨b, 0, none⟩)) "ReadByte").run Tryz.prog w = .ok (73, .pointer (some ⟨b, 0, none⟩)) w := by kernel_rfl

set_option maxRecDepth 100000 in
set_option maxHeartbeats 1000000 in
theorem lDecU_any (b : Nat) (v : Value) (l : List UInt8) (off : Nat) (rd : Bool) (w : World) (h : BufR w b v l off rd) (p rest : List UInt8) (hp : l.drop off = p ++ rest) (he : Ended p) (h10 : p.length ≤ 10) :
    Calls Tryz.prog 37 #[.iface 83 (.pointer (some ⟨b, 0, none⟩))] w fun e w' =>
      e = .returned (.tuple #[.int .u64 ((uval p % M64 : Nat) : Int), .int .u32 ((p.length : Nat) : Int)]) ∧ BufR w' b v l (off + p.length) true ∧ Fr [b] w w' := by
  have hm1 := m_Len
  have hm2 := m_ReadByte
  have hpl : Hid (0 < p.length) := List.length_pos_iff.2 (Ended_ne he)
  have hoff : Hid (off + p.length ≤ l.length) := by
    have := congrArg List.length hp; simp at this; have := h.2.2.2.1; show _ ≤ _; omega
  have hget : Hid (∀ k (hk : k < p.length), ∃ h2 : off + k < l.length, l[off + k] = p[k]) := by
    intro k hk
    have h3 := hoff.out
    refine ⟨by omega, ?_⟩
    have h4 : (l.drop off)[k]? = (p ++ rest)[k]? := by rw [hp]
    rw [List.getElem?_drop, List.getElem?_append_left hk, List.getElem?_eq_getElem (by omega), List.getElem?_eq_getElem hk] at h4
    exact Option.some.inj h4
  have H := Lib.hid h
  have He := Lib.hid he
  clear h hp he
  have hne : ((((l.length - off : Nat) : Int)) == 0) = false := by rw [beq_eq_false_iff_ne]; have h1 := hpl.out; have h2 := hoff.out; omega
  go_enter Tryz.func37, Tryz.ntmps37
  go_wp2_with (go_at_call 41; refine (BufLen_any b v l off (l.length - off) rd _ H.out (by have := hoff.out; omega)).mono ?_; rintro e w' ⟨rfl, k, rfl⟩)
  clear hne
  generalize hx : l.length - off = x
  go_loopw [4, 5, 6] (fun r s c wr => ∃ k : Nat, ∃ rd', k < p.length ∧ r = .int .u64 ((uval (p.take k) % M64 : Nat) : Int) ∧ s = .int .u64 ((7 * k : Nat) : Int) ∧ c = .int .u32 (k : Int) ∧
      BufR wr b v l (off + k) rd' ∧ Fr [b] w wr) (fun _ _ c _ => p.length - (intOf c).toNat)
  case atStart => exact ⟨0, rd, hpl.out, rfl, rfl, rfl, H.out, (Fr.refl _ _).drewN _⟩
  case round =>
    obtain ⟨k, rd', hk, rfl, rfl, rfl, hbuf, hfr⟩ := hrel
    have Hbuf := Lib.hid hbuf
    have Hfr := Lib.hid hfr
    clear hbuf hfr
    obtain ⟨hlt, hgk⟩ := hget.out k hk
    have hlast := Ended_get He.out k hk
    have hstep := uval_take_succ k hk
    generalize hy : p[k] = y at *
    have hk9 : k ≤ 9 := by omega
    have hds := dec_step (uval (p.take k)) k y hk9 (by have := uval_lt (p.take k); rwa [List.length_take, Nat.min_eq_left (by omega)] at this)
    rw [← hstep] at hds
    have Hstep := Lib.hid hstep
    have Hgk := Lib.hid hgk
    have Hlast := Lib.hid hlast
    have Hy := Lib.hid hy
    clear hstep hgk hlast hy
    by_cases hend : k + 1 = p.length
    · have t1 := top_bit_clear (Hlast.out.2 hend)
      rw [hend, List.take_length] at hds
      have Hend := Lib.hid hend
      clear hend
      generalize uval (p.take k) % M64 = z at *
      generalize hz' : uval p % M64 = z' at *
      have Hz' := Lib.hid hz'
      clear hz'
      go_wp2_with (go_at_call 73; refine (BufReadByte_some b v l (off + k) rd' _ Hbuf.out hlt).mono ?_; rw [Hgk.out]; rintro e w1 ⟨rfl, hbuf2, hf2⟩; have Hbuf2 := Lib.hid hbuf2; have Hf2 := Lib.hid hf2; clear hbuf2 hf2)
      go_ret2
      refine ⟨?_, ?_, Hfr.out.trans Hf2.out (fun _ h _ => h)⟩
      · rw [Hz'.out, ← Hend.out]; rfl
      · rw [← Hend.out]; exact Hbuf2.out
    · have t1 := top_bit_set (fun h => hend (Hlast.out.1 h))
      have hk1 : k + 1 < p.length := by omega
      generalize hz : uval (p.take k) % M64 = z at *
      generalize hz' : uval (p.take (k + 1)) % M64 = z' at *
      have Hz' := Lib.hid hz'
      clear hz hz' hend
      go_wp2_with (go_at_call 73; refine (BufReadByte_some b v l (off + k) rd' _ Hbuf.out hlt).mono ?_; rw [Hgk.out]; rintro e w1 ⟨rfl, hbuf2, hf2⟩; have Hbuf2 := Lib.hid hbuf2; have Hf2 := Lib.hid hf2; clear hbuf2 hf2)
      go_roundw
      case rel => exact ⟨k + 1, true, hk1, by rw [Hz'.out], by go_num, by go_num, by simpa [Nat.add_assoc] using Hbuf2.out, Hfr.out.trans Hf2.out (fun _ h _ => h)⟩
      case measure => simp [intOf]; omega
end Go.Proofs.YtahohmdfllgedaaGreat

namespace Go.Proofs.YtahohmdfllgedaaGreat
open Go.RowKit

set_option maxRecDepth 100000 in
set_option maxHeartbeats 1000000 in
theorem Clone_any (v : Value) (l : List UInt8) (w : World) (h : Sl w v (vbs l)) (hl : l.length ≤ 1099511627776) :
    Calls Tryz.prog 24 #[v] w (Made l w) := by
  have qT : ∀ (w : World) (a : Option Addr) (n c n' c' : Nat), (binOp .eql 26 (.slice a n c) (.slice none n' c')).run Tryz.prog w = .ok (.bool a.isNone) w := fun w a n c n' c' => Lib.run_eql_slice_nil w _ _ a n c n' c' Tryz.underlying26
  obtain ⟨ao, c, rfl, h1, h2⟩ := sl_news h
  simp only [List.length_map] at h1 ⊢
  cases ao with
  | none =>
    obtain ⟨h1a, rfl⟩ := h1 rfl
    have : l = [] := List.eq_nil_of_length_eq_zero h1a
    subst this
    go_enter Tryz.func24, Tryz.ntmps24
    go_wp2_with fail
    go_ret
    exact ⟨none, 0, rfl, World.ownsRow_nil _ _ _ _, Fr.refl _ _⟩
  | some ad =>
    have h3 : ∀ j u, (vbs l)[j]? = some u → (w.alloc (.cells #[] 5)).cell? (ad.add j) = some u :=
      fun j u hu => ((Fr.refl [] w).alloc _).cell (h2 ad rfl j u hu) (by simp)
    have H3 := Lib.hid h3
    clear h2 h3 h1
    go_enter Tryz.func24, Tryz.ntmps24
    go_wp2_with (at_builtin; go_must (refine wpList_app sliceB _ rfl _ _ rfl w.heap.size _ 0 [] rfl (World.ownsRow_made w #[] 0 (Nat.le_refl _) (by simp) rfl) (some ad) l.length c (vbs l) rfl (by simp) (fun h => by cases h) ?_ (vbs_one l) (by omega) (by decide) (by simp) ?_))
    · intro ad' had; cases had; exact H3.out
    intro a' c' w1 ho1 hf1 hg1
    have Ho1 := Lib.hid ho1
    have Hf1 := Lib.hid hf1
    clear ho1 hf1 hg1
    go_wp2
    go_ret
    refine ⟨a', c', by simp, by simpa using Ho1.out, ?_⟩
    exact ((Fr.refl [] w).alloc _).trans Hf1.out (fun i hi hlt => by simp [Value.ownBlock] at hi; omega)
theorem conv_sl {v : Value} {l : List UInt8} {w : World} (h : Sl w v (vbs l)) : (convert 26 9 v).run Tryz.prog w = .ok (.string ⟨l.toArray⟩) w := by
  rcases h with ⟨rfl, hl⟩ | ⟨x, c, rfl, h1, h2, h3⟩
  · have : l = [] := by simpa using hl
    subst this
    exact run_convert_bytes_nil w _ _ Tryz.underlying26 Tryz.underlying5 0 0 _ Tryz.underlying9
  · have := run_convert_bytes_back (P := Tryz.prog) w 26 9 5 x c l Tryz.underlying26 Tryz.underlying5 Tryz.underlying9
      (fun j hj => h3 j _ (by simp [hj]))
    simpa using this

set_option maxRecDepth 100000 in
set_option maxHeartbeats 1000000 in
theorem bEqual_any (v u : Value) (l m : List UInt8) (w : World) (h1 : Sl w v (vbs l)) (h2 : Sl w u (vbs m)) :
    Calls Tryz.prog 32 #[v, u] w fun e w' => e = .returned (.bool (l == m)) ∧ w = w' := by
  have k1 := conv_sl h1
  have k2 := conv_sl h2
  clear h1 h2
  go_enter Tryz.func32, Tryz.ntmps32
  go_wp2_with fail
  go_ret
  exact ⟨rfl, rfl⟩

/-! ### impl.DecodeUnsigned: what is deferred finds nothing to recover -/
set_option maxHeartbeats 1000000 in
theorem iDecU1_idle (p q r : Addr) (w : World) :
    CallsD Tryz.prog 36 #[.pointer (some p), .pointer (some q), .pointer (some r)] .returning w fun e u' w' => e = .returned (.tuple #[]) ∧ u' = .returning ∧ w' = w := by
  refine callsD_of_wpS Tryz.func36 rfl fun c₀ cs hu => ?_
  apply wpS_seq
  apply wpS_region
  simp [wpOpsS, go_sem, recoverD, hu, Tryz.ntmps36, Exit.thenS]
  refine wpS_cond (t := false) (by simp [Act.eval, Array.replicate]) ?_
  simp only [Bool.false_eq_true, if_false]
  refine wpS_of_wp (wp_skip ?_)
  cases c₀
  simp_all [bodyPostS, results, Tryz.results36]

set_option maxRecDepth 100000 in
set_option maxHeartbeats 1000000 in
theorem iDecU_any (v : Value) (l p rest : List UInt8) (w : World) (h : Sl w v (vbs l)) (hl : l.length ≤ 1099511627776) (hp : l = p ++ rest) (he : Ended p) (h10 : p.length ≤ 10) :
    Calls Tryz.prog 16 #[v] w fun e w' => e = .returned (.tuple #[.int .u64 ((uval p % M64 : Nat) : Int), .int .i64 ((p.length : Nat) : Int), .bool true]) ∧ Fr [] w w' := by
  have hmf : ∀ (fn : Fn) (first cap : Array Value) (w : World), (Instr.makeFunc fn first cap).run Tryz.prog w = .ok (.func fn first cap) w := fun _ _ _ _ => rfl
  have H := Lib.hid h
  have Hl := Lib.hid hl
  have Hp := Lib.hid hp
  have He := Lib.hid he
  clear h hl hp he
  have hf0 : Fr [] w (((w.alloc (.cells #[.int .u64 0] 23)).alloc (.cells #[.int .i64 0] 3)).alloc (.cells #[.bool false] 4)) := (((Fr.refl _ _).alloc _).alloc _).alloc _
  have b0 : (((w.alloc (.cells #[.int .u64 0] 23)).alloc (.cells #[.int .i64 0] 3)).alloc (.cells #[.bool false] 4)).heap[w.heap.size]? = some (.cells #[.int .u64 0] 23 (0, 0)) := blk_alloc (blk_alloc (blk_new _ _))
  have b1 : (((w.alloc (.cells #[.int .u64 0] 23)).alloc (.cells #[.int .i64 0] 3)).alloc (.cells #[.bool false] 4)).heap[w.heap.size + 1]? = some (.cells #[.int .i64 0] 3 (0, 0)) := by
    have := blk_new (w.alloc (.cells #[.int .u64 0] 23)) (.cells #[.int .i64 0] 3)
    simp only [World.size_alloc] at this
    exact blk_alloc this
  have b2 : (((w.alloc (.cells #[.int .u64 0] 23)).alloc (.cells #[.int .i64 0] 3)).alloc (.cells #[.bool false] 4)).heap[w.heap.size + 1 + 1]? = some (.cells #[.bool false] 4 (0, 0)) := by
    have := blk_new ((w.alloc (.cells #[.int .u64 0] 23)).alloc (.cells #[.int .i64 0] 3)) (.cells #[.bool false] 4)
    simpa only [World.size_alloc] using this
  have hs0 : (((w.alloc (.cells #[.int .u64 0] 23)).alloc (.cells #[.int .i64 0] 3)).alloc (.cells #[.bool false] 4)).heap.size = w.heap.size + 3 := by simp
  generalize hw0 : ((w.alloc (.cells #[.int .u64 0] 23)).alloc (.cells #[.int .i64 0] 3)).alloc (.cells #[.bool false] 4) = w0 at *
  have Hw0 := Lib.hid hw0
  have F0 := Lib.hid hf0
  have B0 := Lib.hid b0
  have B1 := Lib.hid b1
  have B2 := Lib.hid b2
  have S0 := Lib.hid hs0
  clear hw0 hf0 b0 b1 b2 hs0
  go_enter_defers Tryz.func16, Tryz.ntmps16
  go_wp2_with (go_at_call 24; go_must (rw [Hw0.out]; refine (Clone_any v l _ (H.out.fr F0.out (by simp)) Hl.out).mono ?_))
  rintro e w1 ⟨a, c, rfl, ho1, hf1⟩
  have Ho1 := Lib.hid ho1
  have F1 := Lib.hid hf1
  clear ho1 hf1
  go_wp2_with (go_at_call 38; go_must (refine (NewBuffer_any a l.length c _).mono ?_; rintro e w2 ⟨rfl, rfl⟩))
  have hbuf : BufR (w1.alloc (.cells #[.slice a l.length c, .int .i64 0, .bool false] 132 (0, 0))) w1.heap.size (.slice a l.length c) l 0 false := BufR_new (own_sl Ho1.out) (fun g hg => (Ho1.out.lt g hg).2) Hl.out
  have Hbuf := Lib.hid hbuf
  clear hbuf
  go_wp2_with (go_at_call 37; go_must (refine (lDecU_any _ _ l 0 false _ Hbuf.out p rest (by simpa using Hp.out) He.out h10).mono ?_))
  rintro e w2 ⟨rfl, hbuf2, hf2⟩
  have F2 : Hid (Fr [] w0 w2) := (F1.out.alloc _).trans hf2 (by intro i hi hlt; simp at hi; have := F1.out.size; omega)
  have d0 := F2.out.get B0.out (by simp)
  have d1 := F2.out.get B1.out (by simp)
  have d2 := F2.out.get B2.out (by simp)
  clear hbuf2 hf2
  have D0 := Lib.hid d0
  have D1 := Lib.hid d1
  have D2 := Lib.hid d2
  have c0 := cell_of_one d0
  have c1 := cell_of_one d1
  have c2 := cell_of_one d2
  have f0 := free_of_one d0
  have f1 := free_of_one d1
  have f2 := free_of_one d2
  clear d0 d1 d2
  generalize hz : uval p % M64 = z
  generalize hn : w.heap.size = n at *
  have Hn := Lib.hid hn
  have Hz := Lib.hid hz
  clear hn hz
  go_wp2
  refine leaves_cons (f := 36) (args := #[.pointer (some ⟨n, 0, none⟩), .pointer (some ⟨n + 1, 0, none⟩), .pointer (some ⟨n + 1 + 1, 0, none⟩)]) (by simp) (by simp [go_sem]) ?_
  refine (iDecU1_idle ⟨n, 0, none⟩ ⟨n + 1, 0, none⟩ ⟨n + 1 + 1, 0, none⟩ _).mono ?_
  rintro e u' w'' ⟨rfl, rfl, rfl⟩
  have g0 : Fr [] w ((((w2.setCell ⟨n, 0, none⟩ (.int .u64 z)).setCell ⟨n, 0, none⟩ (.int .u64 z)).setCell ⟨n + 1, 0, none⟩ (.int .i64 p.length)).setCell ⟨n + 1 + 1, 0, none⟩ (.bool true)) :=
    ((((F0.out.then F2.out).setCell (.inr (by simp [Hn.out])) _).setCell (.inr (by simp [Hn.out])) _).setCell (.inr (by simp [Hn.out])) _).setCell (.inr (by simp [Hn.out]; omega)) _
  have e0 := cell_of_one (blk_set_other (i := 0) (u := .bool true) (g := n + 1 + 1) (blk_set_other (i := 0) (u := .int .i64 p.length) (g := n + 1) (one_setCell (u := .int .u64 z) (one_setCell (u := .int .u64 z) D0.out)) (by omega)) (by omega))
  have e1 := cell_of_one (blk_set_other (i := 0) (u := .bool true) (g := n + 1 + 1) (one_setCell (u := .int .i64 p.length) (blk_set_other (i := 0) (u := .int .u64 z) (g := n) (blk_set_other (i := 0) (u := .int .u64 z) (g := n) D1.out (by omega)) (by omega))) (by omega))
  have e2 := cell_of_one (one_setCell (u := .bool true) (blk_set_other (i := 0) (u := .int .i64 p.length) (g := n + 1) (blk_set_other (i := 0) (u := .int .u64 z) (g := n) (blk_set_other (i := 0) (u := .int .u64 z) (g := n) D2.out (by omega)) (by omega)) (by omega)))
  generalize ((((w2.setCell ⟨n, 0, none⟩ (.int .u64 z)).setCell ⟨n, 0, none⟩ (.int .u64 z)).setCell ⟨n + 1, 0, none⟩ (.int .i64 p.length)).setCell ⟨n + 1 + 1, 0, none⟩ (.bool true)) = wf at *
  refine ⟨.tuple #[.int .u64 z, .int .i64 p.length, .bool true], by simp [results, Tryz.results16, go_sem, e0, e1, e2], by rw [Hz.out], g0⟩

/-! ### impl.EncodeUnsigned -/
/-! ### laws.works -/
set_option maxRecDepth 100000 in
set_option maxHeartbeats 1000000 in
theorem works_any (w : World) : Calls Tryz.prog 8 #[] w fun e w' => e = .returned (.bool true) ∧ Fr [] w w' := by
  have hs : Sl (w.alloc (.cells #[.int .u8 128, .int .u8 1] 5 (0, 0))) (.slice (some ⟨w.heap.size, 0, none⟩) 2 2) (vbs [128, 1]) :=
    sl_mk rfl (Nat.le_refl _) (by simp [maxLen]) (fun i v hi => by
      rw [blk_cell (blk_new _ _)]
      match i, hi with
      | 0, hi => cases hi; rfl
      | 1, hi => cases hi; rfl
      | i + 2, hi => simp at hi)
  have Hs := Lib.hid hs
  clear hs
  go_enter Tryz.func8, Tryz.ntmps8
  go_wp2_with (go_at_call 16; go_must (refine (iDecU_any _ [128, 1] [128, 1] [] _ Hs.out (by simp) rfl (by simp [Ended]) (by simp)).mono ?_))
  rintro e w1 ⟨rfl, hf⟩
  have e1 : uval [128, 1] % M64 = 128 := by decide
  rw [e1]
  have Hf := Lib.hid hf
  clear hf e1
  go_wp2
  go_ret
  exact ⟨rfl, ((Fr.refl [] w).alloc _).then Hf.out⟩
end Go.Proofs.YtahohmdfllgedaaGreat

namespace Go.Proofs.YtahohmdfllgedaaGreat
open Go.RowKit

theorem own_some {w : World} {base e sz : Nat} {v : Value} {vs : List Value} {n : Nat} (h : w.ownsRow base e sz v n vs) (hn : 0 < n) : ∃ g c, v = .slice (some ⟨g, 0, none⟩) n c ∧ base ≤ g ∧ n ≤ c ∧ c ≤ maxLen := by
  rcases h.2 with ⟨rfl, rfl⟩ | ⟨g, cap, cur, rfl, hb, hg, hnc, hcm, _⟩
  · omega
  · exact ⟨g, cap, rfl, hb, hnc, hcm⟩

end Go.Proofs.YtahohmdfllgedaaGreat

namespace Go.Proofs.YtahohmdfllgedaaGreat
open Go.RowKit

set_option maxRecDepth 100000 in
set_option maxHeartbeats 1000000 in
theorem Signed_any (n : Int) (h1 : -9223372036854775808 ≤ n) (h2 : n ≤ 9223372036854775807) (w : World) :
    Calls Tryz.prog 19 #[.int .i64 n] w (Made (sleb n) w) := by
  have Hn := Lib.hid (And.intro h1 h2)
  clear h1 h2
  go_enter Tryz.func19, Tryz.ntmps19
  go_wp2_with fail
  go_loopw [0, 3] (fun x v wr => ∃ m : Int, ∃ l : List UInt8, ∃ a c, (-9223372036854775808 ≤ m ∧ m ≤ 9223372036854775807) ∧ x = .int .i64 m ∧ v = .slice a l.length c ∧ l ++ sleb m = sleb n ∧
      wr.ownsRow w.heap.size 5 1 (.slice a l.length c) l.length (vbs l) ∧ Fr [] w wr) (fun x _ _ => (intOf x).natAbs)
  case atStart => exact ⟨n, [], none, 0, Hn.out, rfl, rfl, rfl, World.ownsRow_nil _ _ _ _, Fr.refl _ _⟩
  case round =>
    obtain ⟨m, l, a, c, hm, rfl, rfl, hu, hown, hfr⟩ := hrel
    have hlen : Hid (l.length ≤ 10) := by
      have h1 := sleb_le10 Hn.out.1 Hn.out.2; have h2 := congrArg List.length hu; simp at h2; show _ ≤ _; omega
    have Hu := Lib.hid hu
    have Hm := Lib.hid hm
    have Hown := Lib.hid hown
    have Hfr := Lib.hid hfr
    clear hu hown hfr hm
    have hx : bits .or .u8 (m % 256) 128 = (((UInt8.ofNat ((m % 128).toNat + 128)).toNat : Nat) : Int) := by
      rw [or128_u8 _ (by omega) (by omega), ofNat_toNat (by omega)]; omega
    by_cases hb : m < -64
    · generalize hy : UInt8.ofNat ((m % 128).toNat + 128) = y at hx
      have Hy := Lib.hid hy
      clear hy
      go_wp2_with (at_builtin; go_must (refine wpList_app sliceB _ rfl _ _ rfl w.heap.size _ l.length (vbs l) rfl (Hown.out.alloc _) (some ⟨wr.heap.size, 0, none⟩) 1 1 [vb y] rfl rfl (fun h => by cases h) (news_one rfl _ _) (vbs_one [_]) ?_ (by decide) ?_ ?_))
      · have := hlen.out; omega
      · have := Hfr.out.size; simp; omega
      intro a' c' w1 ho1 hf1 hg1
      have Ho1 := Lib.hid ho1
      have Hf1 := Lib.hid hf1
      clear ho1 hf1 hg1
      go_wp2
      refine ⟨⟨m / 128, l ++ [y], a', c', ?_, rfl, by simp, ?_, ?_, ?_⟩, ?_⟩
      · have := Hm.out; omega
      · rw [← Hu.out, sleb_big (n := m) (by omega), Hy.out]; simp
      · simpa using Ho1.out
      · exact (Hfr.out.alloc _).app Hown.out (Nat.le_refl _) Hf1.out
      · simp [intOf]; omega
    by_cases hb2 : 63 < m
    · generalize hy : UInt8.ofNat ((m % 128).toNat + 128) = y at hx
      have Hy := Lib.hid hy
      clear hy
      go_wp2_with (at_builtin; go_must (refine wpList_app sliceB _ rfl _ _ rfl w.heap.size _ l.length (vbs l) rfl (Hown.out.alloc _) (some ⟨wr.heap.size, 0, none⟩) 1 1 [vb y] rfl rfl (fun h => by cases h) (news_one rfl _ _) (vbs_one [_]) ?_ (by decide) ?_ ?_))
      · have := hlen.out; omega
      · have := Hfr.out.size; simp; omega
      intro a' c' w1 ho1 hf1 hg1
      have Ho1 := Lib.hid ho1
      have Hf1 := Lib.hid hf1
      clear ho1 hf1 hg1
      go_wp2
      refine ⟨⟨m / 128, l ++ [y], a', c', ?_, rfl, by simp, ?_, ?_, ?_⟩, ?_⟩
      · have := Hm.out; omega
      · rw [← Hu.out, sleb_big (n := m) (by omega), Hy.out]; simp
      · simpa using Ho1.out
      · exact (Hfr.out.alloc _).app Hown.out (Nat.le_refl _) Hf1.out
      · simp [intOf]; omega
    · clear hx
      have hx : bits .and .u8 (m % 256) 127 = (((UInt8.ofNat (m % 128).toNat).toNat : Nat) : Int) := by
        rw [ofNat_toNat (by omega)]
        obtain ⟨k, hk⟩ := Int.eq_ofNat_of_zero_le (show 0 ≤ m % 256 by omega)
        rw [hk]
        have := u8_and_nat k 127 (by omega) (by decide)
        rw [nat_mask7] at this
        exact this.trans (by omega)
      generalize hy : UInt8.ofNat (m % 128).toNat = y at hx
      have Hy := Lib.hid hy
      clear hy
      go_wp2_with (at_builtin; go_must (refine wpList_app sliceB _ rfl _ _ rfl w.heap.size _ l.length (vbs l) rfl (Hown.out.alloc _) (some ⟨wr.heap.size, 0, none⟩) 1 1 [vb y] rfl rfl (fun h => by cases h) (news_one rfl _ _) (vbs_one [_]) ?_ (by decide) ?_ ?_))
      · have := hlen.out; omega
      · have := Hfr.out.size; simp; omega
      intro a' c' w1 ho1 hf1 hg1
      have Ho1 := Lib.hid ho1
      have Hf1 := Lib.hid hf1
      clear ho1 hf1 hg1
      go_wp2
      go_ret
      have e : sleb n = l ++ [y] := by rw [← Hu.out, ← Hy.out, sleb_small (n := m) (by omega)]
      refine ⟨a', c', ?_, ?_, ?_⟩
      · rw [e]; simp
      · rw [e]; simpa using Ho1.out
      · exact (Hfr.out.alloc _).app Hown.out (Nat.le_refl _) Hf1.out

/-! ### leb128.EncodeSigned -/
end Go.Proofs.YtahohmdfllgedaaGreat
