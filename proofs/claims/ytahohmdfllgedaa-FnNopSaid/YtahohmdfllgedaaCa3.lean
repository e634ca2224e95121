/- The size tests of the statements about expressions (zzFits7 .. zzFits9, small).
Operations of expressions: their operands, their ranges.
Known: whether an operation is one of these, its operands in range.
Expressions as rows of bytes, and their plain facts.
Rows of bytes in the making: owned since an earlier world, appended to.
The plain buffer and the plain reader, read by many bytes; numbers of 2, 4, 8 bytes.
The state of an evaluation, plain: what each of the reference's operations does. No program in sight.
append once more: what the row held stays where it lay.
A frame by the blocks' types: each block is as it was, or it is of one of these types (and stays so). No program in sight.
The state of the reference's evaluation, in memory.
The reference's evaluation: pop, push. -/
import Derived.Test.YtahohmdfllgedaaCa0
import Derived.Test.YtahohmdfllgedaaCa1
import Derived.Test.YtahohmdfllgedaaCa2
import Derived.Laws.BitsAllLaws
import Derived.StillTailTactics
set_option linter.unusedVariables false
set_option linter.unusedSimpArgs false
namespace Go.Proofs.Ytahohmdfllgedaa
open Go.RowKit

/-- A world of an expression. -/
structure LWorld where
  regs : List Nat
  base : Int
  cfa : Int
  at_ : Nat
  mem : List UInt8
abbrev vus (l : List Nat) : List Value := l.map fun n : Nat => .int .u64 ((n : Nat) : Int)
/-- The world's fields, read at W. -/
structure RWorld (W : World) (rv mv : Value) (x : LWorld) : Prop where
  rg : Sl W rv (vus x.regs)
  rl : ∀ n ∈ x.regs, n < 18446744073709551616
  mm : Sl W mv (vbs x.mem)
  b1 : i64 x.base
  b2 : i64 x.cfa
  b3 : x.at_ < 18446744073709551616
def fits9 (x : LWorld) : Bool := decide (x.regs.length ≤ 2147483647) && decide (x.mem.length ≤ 2147483647)
def smallB (x : LWorld) : Bool := decide (x.regs.length ≤ 100) && decide (x.mem.length ≤ 10000) && decide (x.at_ + x.mem.length < 18446744073709551616)
abbrev worldV (rv mv : Value) (x : LWorld) : Value := .agg #[rv, .int .i64 x.base, .int .i64 x.cfa, .int .u64 (x.at_ : Int), mv]
theorem sl_len {w : World} {v : Value} {vs : List Value} (h : Sl w v vs) : ∃ a c, v = .slice a vs.length c ∧ vs.length ≤ maxLen := by
  rcases h with ⟨rfl, rfl⟩ | ⟨x, c, rfl, h1, h2, h3⟩
  · exact ⟨none, 0, rfl, by simp⟩
  · exact ⟨_, c, rfl, by omega⟩

set_option maxHeartbeats 400000 in
theorem zzFits8_any (op a b : Int) (ad : Option Addr) (n c : Nat) (w : World) :
    Calls Try.prog 51 #[.agg #[.int .i64 op, .int .i64 a, .int .i64 b, .slice ad n c]] w fun e w' => e = .returned (.bool (decide (n ≤ 2147483647))) ∧ Fr [] w w' := by
  by_cases h : n ≤ 2147483647
  · have t : ¬ (2147483647 : Int) < (n : Int) := by omega
    rw [decide_eq_true h]
    go_enter Try.func51, Try.ntmps51
    go_wp2_with fail
    go_ret
    exact ⟨rfl, (Fr.refl _ _).alloc _⟩
  · have t : (2147483647 : Int) < (n : Int) := by omega
    rw [decide_eq_false h]
    go_enter Try.func51, Try.ntmps51
    go_wp2_with fail
    go_ret
    exact ⟨rfl, (Fr.refl _ _).alloc _⟩

set_option maxRecDepth 100000 in
set_option maxHeartbeats 1000000 in
theorem zzFits7_any (W : World) (v : Value) (l : List LCall) (w : World) (h : RSl 4 (RCall W) W v l) (hw : Fr [] W w) :
    Calls Try.prog 24 #[v] w fun e w' => e = .returned (.bool (fits3 l)) ∧ Fr [] w w' := by
  obtain ⟨a, c, rfl, h1, h2⟩ := h.shape
  have H := Lib.hid h
  have Hw := Lib.hid hw
  clear h hw
  by_cases hn : l.length ≤ 2147483647
  · have t : ¬ (2147483647 : Int) < (l.length : Int) := by omega
    have e : fits3 l = l.all fits4 := by simp [fits3, hn]
    rw [e]
    go_enter Try.func24, Try.ntmps24
    go_wp2_with fail
    go_loopw [10] (fun i wr => ∃ k : Nat, k ≤ l.length ∧ i = .int .i64 (k : Int) ∧ (l.take k).all fits4 = true ∧ Fr [] w wr) (fun i _ => l.length - (intOf i).toNat)
    case atStart => exact ⟨0, Nat.zero_le _, rfl, rfl, Fr.refl _ _⟩
    case round =>
      obtain ⟨k, hk, rfl, hall, hfr⟩ := hrel
      have Hall := Lib.hid hall
      have Hfr := Lib.hid hfr
      clear hall hfr
      by_cases hlt : k < l.length
      · obtain ⟨g, o, da, dc, rfl, c0, c1, c2, c3, -⟩ := call_at H.out (Hw.out.then Hfr.out) k hlt
        have hstep := all_take_succ fits4 l k hlt
        have hstop := all_false fits4 l k hlt
        have Hs := Lib.hid (And.intro hstep hstop)
        clear hstep hstop
        generalize l[k] = x at *
        cases hx : fits4 x
        · have Hx := Lib.hid hx
          clear hx
          go_wp2_with (go_at_call 51; go_must (refine (zzFits8_any _ _ _ _ _ _ _).mono ?_))
          have hx' : decide (x.data.length ≤ 2147483647) = _ := Hx.out
          rw [hx']
          clear hx'
          rintro e w1 ⟨rfl, hf1⟩
          have Hf1 := Lib.hid hf1
          clear hf1
          go_wp2
          go_ret
          exact ⟨by rw [Hs.out.2 Hx.out]; rfl, (Hfr.out.alloc _).then Hf1.out⟩
        · have Hx := Lib.hid hx
          clear hx
          go_wp2_with (go_at_call 51; go_must (refine (zzFits8_any _ _ _ _ _ _ _).mono ?_))
          have hx' : decide (x.data.length ≤ 2147483647) = _ := Hx.out
          rw [hx']
          clear hx'
          rintro e w1 ⟨rfl, hf1⟩
          have Hf1 := Lib.hid hf1
          clear hf1
          go_wp2
          go_roundw
          case rel => exact ⟨k + 1, by omega, by go_num, by rw [Hs.out.1, Hall.out, Hx.out]; rfl, (Hfr.out.alloc _).then Hf1.out⟩
          case measure => simp [intOf]; omega
      · obtain rfl : k = l.length := by omega
        clear hlt
        go_wp2
        go_ret
        exact ⟨by rw [← Hall.out, List.take_length]; rfl, Hfr.out⟩
  · have t : (2147483647 : Int) < (l.length : Int) := by omega
    have e : fits3 l = false := by simp [fits3, hn]
    rw [e]
    go_enter Try.func24, Try.ntmps24
    go_wp2_with fail
    go_ret
    exact ⟨rfl, Fr.refl _ _⟩

set_option maxHeartbeats 400000 in
theorem zzFits9_any (ra ma : Option Addr) (rn rc mn mc : Nat) (b1 b2 b3 : Value) (w : World) :
    Calls Try.prog 25 #[.agg #[.slice ra rn rc, b1, b2, b3, .slice ma mn mc]] w fun e w' => e = .returned (.bool (decide (rn ≤ 2147483647) && decide (mn ≤ 2147483647))) ∧ Fr [] w w' := by
  by_cases h : rn ≤ 2147483647
  · have t : ¬ (2147483647 : Int) < (rn : Int) := by omega
    by_cases h' : mn ≤ 2147483647
    · have t' : ¬ (2147483647 : Int) < (mn : Int) := by omega
      rw [decide_eq_true h, decide_eq_true h']
      go_enter Try.func25, Try.ntmps25
      go_wp2_with fail
      go_ret
      exact ⟨rfl, (Fr.refl _ _).alloc _⟩
    · have t' : (2147483647 : Int) < (mn : Int) := by omega
      rw [decide_eq_true h, decide_eq_false h']
      go_enter Try.func25, Try.ntmps25
      go_wp2_with fail
      go_ret
      exact ⟨rfl, (Fr.refl _ _).alloc _⟩
  · have t : (2147483647 : Int) < (rn : Int) := by omega
    rw [decide_eq_false h]
    go_enter Try.func25, Try.ntmps25
    go_wp2_with fail
    go_ret
    exact ⟨rfl, (Fr.refl _ _).alloc _⟩

theorem wrap_add_u64 (a b : Nat) (ha : a < 18446744073709551616) (hb : b ≤ 10000) : decide ((a : Int) ≤ IntKind.u64.wrap ((a : Int) + (b : Int))) = decide (a + b < 18446744073709551616) := by
  rw [decide_eq_decide]
  simp only [IntKind.wrap, IntKind.signed, IntKind.bits]
  by_cases h : a + b < 18446744073709551616
  · constructor
    · intro _; exact h
    · intro _; simp; omega
  · constructor
    · intro h2; simp at h2; omega
    · intro h2; exact absurd h2 h

set_option maxHeartbeats 400000 in
theorem small_any (ra ma : Option Addr) (rn rc mn mc : Nat) (b1 b2 : Value) (at_ : Nat) (w : World) (ha : at_ < 18446744073709551616) :
    Calls Try.prog 26 #[.agg #[.slice ra rn rc, b1, b2, .int .u64 (at_ : Int), .slice ma mn mc]] w fun e w' =>
      e = .returned (.bool (decide (rn ≤ 100) && decide (mn ≤ 10000) && decide (at_ + mn < 18446744073709551616))) ∧ Fr [] w w' := by
  by_cases h : rn ≤ 100
  · have t : (rn : Int) ≤ 100 := by omega
    by_cases h' : mn ≤ 10000
    · have t' : (mn : Int) ≤ 10000 := by omega
      have e := wrap_add_u64 at_ mn ha h'
      have e2 : (mn : Int) % 18446744073709551616 = (mn : Int) := by omega
      rw [decide_eq_true h, decide_eq_true h', ← e]
      clear e
      go_enter Try.func26, Try.ntmps26
      go_wp2_with fail
      all_goals
        go_ret
        exact ⟨by simp_all, (Fr.refl _ _).alloc _⟩
    · have t' : ¬ (mn : Int) ≤ 10000 := by omega
      rw [decide_eq_true h, decide_eq_false h']
      go_enter Try.func26, Try.ntmps26
      go_wp2_with fail
      go_ret
      exact ⟨rfl, (Fr.refl _ _).alloc _⟩
  · have t : ¬ (rn : Int) ≤ 100 := by omega
    rw [decide_eq_false h]
    go_enter Try.func26, Try.ntmps26
    go_wp2_with fail
    go_ret
    exact ⟨rfl, (Fr.refl _ _).alloc _⟩
end Go.Proofs.Ytahohmdfllgedaa

namespace Go.Proofs.Ytahohmdfllgedaa
open Go.RowKit

def eshape (op : Int) : List UInt8 × Bool :=
  if (48 ≤ op ∧ op < 80) ∨ (80 ≤ op ∧ op < 112) then ([], true)
  else if 112 ≤ op ∧ op < 144 then ([115], true)
  else if op = 3 then ([97], true)
  else if op = 8 ∨ op = 9 ∨ op = 21 ∨ op = 148 then ([49], true)
  else if op = 10 ∨ op = 11 then ([50], true)
  else if op = 12 ∨ op = 13 then ([52], true)
  else if op = 14 ∨ op = 15 then ([56], true)
  else if op = 16 ∨ op = 35 ∨ op = 144 ∨ op = 147 then ([117], true)
  else if op = 17 ∨ op = 145 then ([115], true)
  else if op = 146 then ([117, 115], true)
  else if op = 40 ∨ op = 47 then ([106], true)
  else if op = 158 then ([98], true)
  else if op = 6 ∨ op = 18 ∨ op = 19 ∨ op = 20 ∨ op = 22 ∨ op = 23 ∨ (25 ≤ op ∧ op ≤ 34) ∨ (36 ≤ op ∧ op ≤ 39) ∨ (41 ≤ op ∧ op ≤ 46) ∨ op = 150 ∨ op = 156 ∨ op = 159 then ([], true)
  else ([], false)

set_option maxRecDepth 100000 in
set_option maxHeartbeats 8000000 in
theorem operands_any (op : Int) (w : World) :
    Calls Try.prog 54 #[.int .i64 op] w fun e w' => e = .returned (.tuple #[.string ⟨(eshape op).1.toArray⟩, .bool (eshape op).2]) ∧ w = w' := by
  go_enter Try.func54, Try.ntmps54
  go_wp2_with fail
  all_goals
    go_ret2
    refine ⟨?_, rfl⟩
    simp only [beq_iff_eq, beq_eq_false_iff_ne, ne_eq] at *
    unfold eshape
    first
    | (rw [if_pos (by omega)]; rfl)
    | (rw [if_neg (by omega), if_pos (by omega)]; rfl)
    | (rw [if_neg (by omega), if_neg (by omega)]; repeat (first | (rw [if_pos (by omega)]; rfl) | rw [if_neg (by omega)]); try rfl)
end Go.Proofs.Ytahohmdfllgedaa

namespace Go.Proofs.Ytahohmdfllgedaa
open Go.RowKit

def knownR (op a : Int) : Bool :=
  if op = 8 ∨ op = 21 ∨ op = 148 then decide (0 ≤ a ∧ a < 256)
  else if op = 9 then decide (-128 ≤ a ∧ a < 128)
  else if op = 10 then decide (0 ≤ a ∧ a < 65536)
  else if op = 11 then decide (-32768 ≤ a ∧ a < 32768)
  else if op = 12 then decide (0 ≤ a ∧ a < 4294967296)
  else if op = 13 then decide (-2147483648 ≤ a ∧ a < 2147483648)
  else if op = 144 ∨ op = 146 ∨ op = 147 then decide (0 ≤ a ∧ a < 1048576)
  else decide ((eshape op).1 ≠ [117] ∨ 0 ≤ a)
def knownB (op a : Int) (n : Nat) : Bool := (eshape op).2 && decide (n ≤ 64) && knownR op a

set_option maxRecDepth 100000 in
set_option maxHeartbeats 8000000 in
theorem Known_any (op a b : Int) (ad : Option Addr) (n c : Nat) (w : World) :
    Calls Try.prog 52 #[.agg #[.int .i64 op, .int .i64 a, .int .i64 b, .slice ad n c]] w fun e w' => e = .returned (.bool (knownB op a n)) ∧ Fr [] w w' := by
  by_cases hn : n ≤ 64
  case neg =>
    have t1 : (64 : Int) < (n : Int) := by omega
    have e : knownB op a n = false := by simp [knownB, hn]
    rw [e]
    clear e
    cases hs : (eshape op).2
    all_goals
      have Hs := Lib.hid hs
      clear hs
      go_enter Try.func52, Try.ntmps52
      go_wp2_with (go_at_call 54; go_must (refine (operands_any _ _).mono ?_; rw [Hs.out]; rintro e w1 ⟨rfl, rfl⟩))
      go_ret
      exact ⟨rfl, (Fr.refl _ _).alloc _⟩
  case pos =>
    have t1 : ¬ (64 : Int) < (n : Int) := by omega
    cases hs : (eshape op).2
    case false =>
      have e : knownB op a n = false := by simp [knownB, hs]
      rw [e]
      clear e
      have Hs := Lib.hid hs
      clear hs
      go_enter Try.func52, Try.ntmps52
      go_wp2_with (go_at_call 54; go_must (refine (operands_any _ _).mono ?_; rw [Hs.out]; rintro e w1 ⟨rfl, rfl⟩))
      go_ret
      exact ⟨rfl, (Fr.refl _ _).alloc _⟩
    case true =>
      have e : knownB op a n = knownR op a := by simp [knownB, hs, hn]
      rw [e]
      clear e
      by_cases hu : (eshape op).1 = [117]
      · have Hs := Lib.hid hs
        have Hu := Lib.hid hu
        clear hs hu
        go_enter Try.func52, Try.ntmps52
        go_wp2_with (go_at_call 54; go_must (refine (operands_any _ _).mono ?_; rw [Hs.out, Hu.out]; rintro e w1 ⟨rfl, rfl⟩))
        all_goals
          go_ret
          refine ⟨ret_bool ?_, (Fr.refl _ _).alloc _⟩
          rw [Bool.eq_iff_iff]
          simp only [beq_iff_eq, beq_eq_false_iff_ne, ne_eq] at *
          simp [knownR, Hu.out, *]
          try omega
      · have hne : ((eshape op).1.toArray == #[117]) = false := by
          rw [beq_eq_false_iff_ne]; intro h; exact hu (by simpa using congrArg Array.toList h)
        generalize hsg : (eshape op).1 = s at *
        have Hs := Lib.hid hs
        have Hu := Lib.hid hu
        have Hsg := Lib.hid hsg
        clear hs hu hsg
        go_enter Try.func52, Try.ntmps52
        go_wp2_with (go_at_call 54; go_must (refine (operands_any _ _).mono ?_; rw [Hs.out, Hsg.out]; rintro e w1 ⟨rfl, rfl⟩))
        all_goals
          go_ret
          refine ⟨ret_bool ?_, (Fr.refl _ _).alloc _⟩
          rw [Bool.eq_iff_iff]
          simp only [beq_iff_eq, beq_eq_false_iff_ne, ne_eq] at *
          simp [knownR, Hsg.out, Hu.out, *]
          try omega
end Go.Proofs.Ytahohmdfllgedaa

namespace Go.Proofs.Ytahohmdfllgedaa
open Go.RowKit

def eopnd (data : List UInt8) (d : Int) (ch : UInt8) (x : Int) : List UInt8 :=
  if ch = 117 then uleb (u64of x) else if ch = 115 then sleb x else if ch = 97 then leL (u64of x) 8 else if ch = 106 then leL (u64of d) 2
  else if ch = 98 then uleb data.length ++ data else leL (u64of x) (ch.toNat - 48)
def eopnds (data : List UInt8) (d : Int) : List UInt8 → List Int → List UInt8
  | ch :: s, x :: xs => eopnd data d ch x ++ eopnds data d s xs
  | _, _ => []
theorem eopnds_take (data : List UInt8) (d : Int) : ∀ (s : List UInt8) (xs : List Int) (i : Nat) (h : i < s.length) (h' : i < xs.length), eopnds data d (s.take (i + 1)) xs = eopnds data d (s.take i) xs ++ eopnd data d s[i] xs[i]
  | ch :: s, x :: xs, 0, _, _ => by cases s <;> simp [eopnds]
  | ch :: s, x :: xs, i + 1, h, h' => by
    simp only [List.take_succ_cons, eopnds, List.getElem_cons_succ]
    rw [eopnds_take data d s xs i (by simpa using h) (by simpa using h'), List.append_assoc]
  | [], _, _, h, _ => by simp at h
  | _ :: _, [], _, _, h' => by simp at h'

/-- The signs that stand in a shape. -/
def esign (ch : UInt8) : Prop := ch = 117 ∨ ch = 115 ∨ ch = 97 ∨ ch = 106 ∨ ch = 98 ∨ ch = 49 ∨ ch = 50 ∨ ch = 52 ∨ ch = 56
theorem eshape_mem (op : Int) : eshape op ∈ [([], true), ([115], true), ([97], true), ([49], true), ([50], true), ([52], true), ([56], true), ([117], true), ([117, 115], true), ([106], true), ([98], true), ([], false)] := by
  unfold eshape
  repeat' (refine iteInduction (motive := fun x => x ∈ _) ?_ ?_ <;> intro _)
  all_goals decide
theorem eshape_signs (op : Int) : ∀ ch ∈ (eshape op).1, esign ch := by
  have h := eshape_mem op
  generalize eshape op = x at h
  simp only [List.mem_cons, List.not_mem_nil, or_false] at h
  rcases h with rfl | rfl | rfl | rfl | rfl | rfl | rfl | rfl | rfl | rfl | rfl | rfl
  all_goals simp [esign]
theorem eshape_len (op : Int) : (eshape op).1.length ≤ 2 := by
  have h := eshape_mem op
  generalize eshape op = x at h
  simp only [List.mem_cons, List.not_mem_nil, or_false] at h
  rcases h with rfl | rfl | rfl | rfl | rfl | rfl | rfl | rfl | rfl | rfl | rfl | rfl
  all_goals decide
theorem eopnd_len (data : List UInt8) (d : Int) (hd : data.length ≤ 64) (ch : UInt8) (hs : esign ch) (x : Int) (hx : i64 x) : (eopnd data d ch x).length ≤ 74 := by
  have h1 := uleb_le10 (u64of_lt x)
  have h2 := sleb_le10 hx.1 hx.2
  have h3 := uleb_le10 (n := data.length) (by omega)
  rcases hs with rfl | rfl | rfl | rfl | rfl | rfl | rfl | rfl | rfl
  all_goals simp [eopnd, leL_length]
  all_goals omega
theorem eopnd_len_d (data : List UInt8) (d d' : Int) (ch : UInt8) (x : Int) : (eopnd data d ch x).length = (eopnd data d' ch x).length := by
  unfold eopnd; repeat' split
  all_goals simp [leL_length]
theorem eopnds_len (data : List UInt8) (d : Int) (hd : data.length ≤ 64) : ∀ (s : List UInt8) (xs : List Int), (∀ ch ∈ s, esign ch) → (∀ x ∈ xs, i64 x) → (eopnds data d s xs).length ≤ 74 * s.length
  | ch :: s, x :: xs, h, h' => by
    have h1 := eopnd_len data d hd ch (h ch (by simp)) x (h' x (by simp))
    have h2 := eopnds_len data d hd s xs (fun c hc => h c (by simp [hc])) (fun c hc => h' c (by simp [hc]))
    simp [eopnds]; omega
  | [], _, _, _ => by simp [eopnds]
  | _ :: _, [], _, _ => by simp [eopnds]
theorem eopnds_len_d (data : List UInt8) (d d' : Int) : ∀ (s : List UInt8) (xs : List Int), (eopnds data d s xs).length = (eopnds data d' s xs).length
  | ch :: s, x :: xs => by simp [eopnds, eopnd_len_d data d d' ch x, eopnds_len_d data d d' s xs]
  | [], _ => by simp [eopnds]
  | _ :: _, [] => by simp [eopnds]

/-- An operation's bytes; d: how far a jump goes. -/
def eL (c : LCall) (d : Int) : List UInt8 := UInt8.ofNat c.op.toNat :: eopnds c.data d (eshape c.op).1 [c.a, c.b]
def eSz (c : LCall) : Nat := (eL c 0).length
theorem eL_len (c : LCall) (d : Int) : (eL c d).length = eSz c := by simp [eSz, eL, eopnds_len_d c.data d 0]
theorem eSz_pos (c : LCall) : 0 < eSz c := by simp [eSz, eL]
theorem eSz_le (c : LCall) (hd : c.data.length ≤ 64) (h1 : i64 c.a) (h2 : i64 c.b) : eSz c ≤ 149 := by
  have h3 := eopnds_len c.data 0 hd (eshape c.op).1 [c.a, c.b] (eshape_signs _) (by simp; exact ⟨h1, h2⟩)
  have h4 := eshape_len c.op
  simp [eSz, eL]; omega
/-- Where the operation k begins. -/
def pl (l : List LCall) (k : Nat) : Nat := ((l.take k).map eSz).sum
theorem pl_zero (l : List LCall) : pl l 0 = 0 := by simp [pl]
theorem pl_succ (l : List LCall) (k : Nat) (hk : k < l.length) : pl l (k + 1) = pl l k + eSz l[k] := by
  simp only [pl]; rw [List.take_succ_eq_append_getElem hk, List.map_append, List.sum_append]; simp
theorem pl_le (l : List LCall) (h : ∀ c ∈ l, c.data.length ≤ 64 ∧ i64 c.a ∧ i64 c.b) : ∀ k, pl l k ≤ k * 149 := by
  intro k
  induction k with
  | zero => simp [pl_zero]
  | succ k ih =>
    by_cases hk : k < l.length
    · rw [pl_succ l k hk]
      obtain ⟨q1, q2, q3⟩ := h l[k] (List.getElem_mem hk)
      have := eSz_le l[k] q1 q2 q3; omega
    · have e : l.take (k + 1) = l.take k := by rw [List.take_of_length_le (by omega), List.take_of_length_le (by omega)]
      rw [pl, e]; show pl l k ≤ _; omega
def isJump (op : Int) : Bool := decide (op = 40 ∨ op = 47)
def jumpD (l : List LCall) (k : Nat) (c : LCall) : Int := (pl l c.a.toNat : Int) - (pl l (k + 1) : Int)
def dOf (l : List LCall) (k : Nat) (c : LCall) : Int := if isJump c.op then jumpD l k c else 0
def jumpOk (l : List LCall) (k : Nat) (c : LCall) : Bool := !isJump c.op || (decide (0 ≤ c.a ∧ c.a ≤ l.length) && decide (-32768 ≤ jumpD l k c ∧ jumpD l k c < 32768))
/-- The operations from the place k on, written; m are those that are left. -/
def exprFrom (l : List LCall) : Nat → List LCall → List UInt8
  | _, [] => []
  | k, c :: m => eL c (dOf l k c) ++ exprFrom l (k + 1) m
def jumpsFrom (l : List LCall) : Nat → List LCall → Bool
  | _, [] => true
  | k, c :: m => jumpOk l k c && jumpsFrom l (k + 1) m
def exprL (l : List LCall) : List UInt8 := exprFrom l 0 l
def knownAll (l : List LCall) : Bool := l.all fun c => knownB c.op c.a c.data.length
def exprOk (l : List LCall) : Bool := knownAll l && jumpsFrom l 0 l
theorem exprFrom_take (l : List LCall) : ∀ (m : List LCall) (i k : Nat) (h : k < m.length), exprFrom l i (m.take (k + 1)) = exprFrom l i (m.take k) ++ eL m[k] (dOf l (i + k) m[k])
  | c :: m, i, 0, _ => by simp [exprFrom]
  | c :: m, i, k + 1, h => by
    simp only [List.take_succ_cons, exprFrom, List.getElem_cons_succ]
    rw [exprFrom_take l m (i + 1) k (by simpa using h), List.append_assoc]
    congr 4; omega
  | [], _, _, h => by simp at h
theorem jumpsFrom_take (l : List LCall) : ∀ (m : List LCall) (i k : Nat) (h : k < m.length), jumpsFrom l i (m.take (k + 1)) = (jumpsFrom l i (m.take k) && jumpOk l (i + k) m[k])
  | c :: m, i, 0, _ => by simp [jumpsFrom]
  | c :: m, i, k + 1, h => by
    simp only [List.take_succ_cons, jumpsFrom, List.getElem_cons_succ]
    rw [jumpsFrom_take l m (i + 1) k (by simpa using h), Bool.and_assoc]
    congr 3; omega
  | [], _, _, h => by simp at h
theorem jumpsFrom_false (l : List LCall) : ∀ (m : List LCall) (i k : Nat) (h : k < m.length), jumpOk l (i + k) m[k] = false → jumpsFrom l i m = false
  | c :: m, i, 0, _, hj => by simp at hj; simp [jumpsFrom, hj]
  | c :: m, i, k + 1, h, hj => by
    simp only [List.getElem_cons_succ] at hj
    have := jumpsFrom_false l m (i + 1) k (by simpa using h) (by rw [← hj]; congr 1; omega)
    simp [jumpsFrom, this]
  | [], _, _, h, _ => by simp at h
theorem exprFrom_len (l : List LCall) : ∀ (m : List LCall) (i : Nat), (exprFrom l i m).length = (m.map eSz).sum
  | [], _ => by simp [exprFrom]
  | c :: m, i => by simp [exprFrom, eL_len, exprFrom_len l m (i + 1)]
theorem expr_take_len (l : List LCall) (k : Nat) : (exprFrom l 0 (l.take k)).length = pl l k := by rw [exprFrom_len]; rfl
theorem exprL_len (l : List LCall) : (exprL l).length = pl l l.length := by rw [exprL, exprFrom_len, pl, List.take_length]
theorem exprFrom_app (l : List LCall) : ∀ (m n : List LCall) (i : Nat), exprFrom l i (m ++ n) = exprFrom l i m ++ exprFrom l (i + m.length) n
  | [], n, i => by simp [exprFrom]
  | c :: m, n, i => by
    simp only [List.cons_append, exprFrom, List.length_cons]
    rw [exprFrom_app l m n (i + 1), List.append_assoc]
    congr 3; omega
/-- At the place of the operation k stand its bytes, and those of the others behind them. -/
theorem expr_drop (l : List LCall) (k : Nat) (hk : k < l.length) : (exprL l).drop (pl l k) = eL l[k] (dOf l k l[k]) ++ (exprL l).drop (pl l (k + 1)) := by
  have e : l = l.take k ++ (l[k] :: l.drop (k + 1)) := by rw [← List.drop_eq_getElem_cons hk, List.take_append_drop]
  have e1 : exprL l = exprFrom l 0 (l.take k) ++ (eL l[k] (dOf l k l[k]) ++ exprFrom l (k + 1) (l.drop (k + 1))) := by
    have h1 := congrArg (exprFrom l 0) e
    rw [exprFrom_app] at h1
    rw [exprL, h1]
    simp only [exprFrom, List.length_take, Nat.min_eq_left (Nat.le_of_lt hk), Nat.zero_add]
  have h2 := expr_take_len l k
  have h3 : (exprL l).drop (pl l k) = eL l[k] (dOf l k l[k]) ++ exprFrom l (k + 1) (l.drop (k + 1)) := by
    rw [e1, ← h2]; simp
  rw [h3]
  congr 1
  have h4 : pl l (k + 1) = pl l k + (eL l[k] (dOf l k l[k])).length := by rw [pl_succ l k hk, eL_len]
  have h5 : (exprL l).drop (pl l k + (eL l[k] (dOf l k l[k])).length) = ((exprL l).drop (pl l k)).drop (eL l[k] (dOf l k l[k])).length := by rw [List.drop_drop]
  rw [h4, h5, h3]
  simp
theorem pl_mono (l : List LCall) {j k : Nat} (h : j ≤ k) : pl l j ≤ pl l k := by
  induction k with
  | zero => have : j = 0 := by omega
            subst this; exact Nat.le_refl _
  | succ k ih =>
    by_cases hj : j = k + 1
    · subst hj; exact Nat.le_refl _
    · have h1 := ih (by omega)
      by_cases hk : k < l.length
      · rw [pl_succ l k hk]; omega
      · have e : l.take (k + 1) = l.take k := by rw [List.take_of_length_le (by omega), List.take_of_length_le (by omega)]
        have e2 : pl l (k + 1) = pl l k := by rw [pl, e]; rfl
        omega
theorem pl_lt (l : List LCall) {k : Nat} (hk : k < l.length) : pl l k < pl l l.length := by
  have h1 := pl_succ l k hk
  have h2 := eSz_pos l[k]
  have h3 := pl_mono l (show k + 1 ≤ l.length by omega)
  omega
end Go.Proofs.Ytahohmdfllgedaa

namespace Go.Proofs.Ytahohmdfllgedaa
open Go.RowKit

/-- A row of n bytes l that was made since w0; nothing older has turned. -/
structure OwnR (w0 w : World) (a : Option Addr) (n c : Nat) (l : List UInt8) : Prop where
  len : n = l.length
  own : w.ownsRow w0.heap.size 5 1 (.slice a n c) n (vbs l)
  fr : Fr [] w0 w

section
variable {w0 w w' : World} {a : Option Addr} {n c : Nat} {l m : List UInt8}
theorem OwnR.nil (f : Fr [] w0 w) : OwnR w0 w none 0 0 [] := ⟨rfl, World.ownsRow_nil _ _ _ _, f⟩
theorem OwnR.call (h : OwnR w0 w a n c l) (f : Fr [] w w') : OwnR w0 w' a n c l := ⟨h.len, own_fr h.own f (by simp), h.fr.then f⟩
/-- Behind a call that made l. -/
theorem OwnR.made (f : Fr [] w0 w) (o : w'.ownsRow w.heap.size 5 1 (.slice a l.length c) l.length (vbs l)) (g : Fr [] w w') : OwnR w0 w' a l.length c l := ⟨rfl, own_base o f.size, f.then g⟩
theorem OwnR.sl (h : OwnR w0 w a n c l) : Sl w (.slice a n c) (vbs l) := own_sl h.own
theorem OwnR.inj (h : OwnR w0 w a n c l) : ∃ c', c = c' ∧ n = l.length := ⟨c, rfl, h.len⟩
theorem OwnR.base {w1 : World} (h : OwnR w1 w a n c l) (f : Fr [] w0 w1) : OwnR w0 w a n c l := ⟨h.len, own_base h.own f.size, f.then h.fr⟩
theorem OwnR.lt (h : OwnR w0 w a n c l) {g : Nat} (hg : (Value.slice a n c).ownBlock = some g) : w0.heap.size ≤ g ∧ g < w.heap.size := h.own.lt g hg
/-- What the call appends to it turns nothing that was there at w0. -/
theorem OwnR.then (h : OwnR w0 w a n c l) (f : Fr (Value.slice a n c).ownBlock.toList w w') : Fr [] w0 w' := h.fr.app h.own (Nat.le_refl _) f

theorem sl_news3 {a1 : Option Addr} {n1 c1 : Nat} {vs : List Value} (h : Sl w (.slice a1 n1 c1) vs) :
    n1 = vs.length ∧ (a1 = none → n1 = 0 ∧ c1 = 0) ∧ ∀ ad, a1 = some ad → ∀ j u, vs[j]? = some u → w.cell? (ad.add j) = some u := by
  obtain ⟨ao, c', hv, h1, h2⟩ := sl_news h
  simp only [Value.slice.injEq] at hv
  obtain ⟨rfl, rfl, rfl⟩ := hv
  exact ⟨rfl, h1, h2⟩

theorem OwnR.app_list {ops : Array Oper} {rest : List Oper} {o : Oper} {at_ : Act} {Q : Exit → Act → World → Prop} {ax : Option Addr} {nx cx : Nat} (h : OwnR w0 w a n c l) (hm : Sl w (.slice ax nx cx) (vbs m))
    (hgd : o.guard = none) (s x : Operand) (ho : o.op = .call { callee := .builtin .append, args := #[s, x], argTypes := #[23, 23] }) (hs : at_.eval s = .slice a n c) (hx : at_.eval x = .slice ax nx cx)
    (hlen : n + nx ≤ 1099511627776)
    (k : ∀ a' c' w', OwnR w0 w' a' (n + nx) c' (l ++ m) → Fr (Value.slice a n c).ownBlock.toList w w' →
      wpList Try.prog ops Q rest (at_.put o.dst (.slice a' (n + nx) c')) w') :
    wpList Try.prog ops Q (o :: rest) at_ w := by
  obtain ⟨q1, q2, q3⟩ := sl_news3 hm
  refine wpList_app2 sliceB _ hgd s x ho w0.heap.size _ n (vbs l) hs h.own ax nx cx (vbs m) hx (by omega) q2 q3 (vbs_one _) hlen (by decide) h.fr.size ?_
  intro a' c' w' ho' hf' hg'
  refine k a' c' w' ⟨?_, ?_, h.then hf'⟩ hf'
  · rw [List.length_append, ← h.len]; simp at q1; omega
  · rw [vbs_app]; exact ho'

theorem OwnR.app_step {ops : Array Oper} {o : Oper} {at_ : Act} {K : Act → World → Prop} {Q : Exit → Act → World → Prop} {E : Prop} {ax : Option Addr} {nx cx : Nat} (h : OwnR w0 w a n c l) (hm : Sl w (.slice ax nx cx) (vbs m))
    (hgd : o.guard = none) (s x : Operand) (ho : o.op = .call { callee := .builtin .append, args := #[s, x], argTypes := #[23, 23] }) (hs : at_.eval s = .slice a n c) (hx : at_.eval x = .slice ax nx cx)
    (hlen : n + nx ≤ 1099511627776)
    (k : ∀ a' c' w', OwnR w0 w' a' (n + nx) c' (l ++ m) → Fr (Value.slice a n c).ownBlock.toList w w' →
      K (at_.put o.dst (.slice a' (n + nx) c')) w') :
    if Region.wanted o (yielded ops at_.tmps) = true then Oper.wp Try.prog o at_ w K Q else E := by
  obtain ⟨q1, q2, q3⟩ := sl_news3 hm
  refine step_app2 sliceB _ hgd s x ho w0.heap.size _ n (vbs l) hs h.own ax nx cx (vbs m) hx (by omega) q2 q3 (vbs_one _) hlen (by decide) h.fr.size ?_
  intro a' c' w' ho' hf' hg'
  refine k a' c' w' ⟨?_, ?_, h.then hf'⟩ hf'
  · rw [List.length_append, ← h.len]; simp at q1; omega
  · rw [vbs_app]; exact ho'
end
end Go.Proofs.Ytahohmdfllgedaa

namespace Go.Proofs.Ytahohmdfllgedaa
open Go.RowKit

/-- The number that bytes stand for, the least first. -/
def leval : List UInt8 → Nat
  | [] => 0
  | x :: l => x.toNat + 256 * leval l
theorem leval_leL (k : Nat) : ∀ n, leval (leL n k) = n % 256 ^ k := by
  induction k with
  | zero => intro n; simp [leL, leval, Nat.mod_one]
  | succ k ih =>
    intro n
    rw [leL, leval, ih, ofNat_toNat (by omega), Nat.pow_succ, Nat.mul_comm (256 ^ k) 256, Nat.mod_mul]
theorem leval_lt (l : List UInt8) : leval l < 256 ^ l.length := by
  induction l with
  | nil => simp [leval]
  | cons x l ih =>
    have := x.toNat_lt
    simp only [leval, List.length_cons, Nat.pow_succ]
    omega

theorem or_u16 (a b : Nat) (ha : a < 256) (hb : b < 256) : bits .or .u16 (a : Int) ((b : Int) * 256) = ((a + 256 * b : Nat) : Int) := by
  have e : (b : Int) * 256 = ((256 * b : Nat) : Int) := by omega
  rw [e, u16_or_nat _ _ (by omega) (by omega), nat_join8' _ _ (by omega) (by omega), Nat.add_comm]
theorem or_u32 (a b c d : Nat) (ha : a < 256) (hb : b < 256) (hc : c < 256) (hd : d < 256) :
    bits .or .u32 (bits .or .u32 (bits .or .u32 (a : Int) ((b : Int) * 256)) ((c : Int) * 65536)) ((d : Int) * 16777216) = ((a + 256 * (b + 256 * (c + 256 * d)) : Nat) : Int) := by
  have e1 : (b : Int) * 256 = ((256 * b : Nat) : Int) := by omega
  have e2 : (c : Int) * 65536 = ((65536 * c : Nat) : Int) := by omega
  have e3 : (d : Int) * 16777216 = ((16777216 * d : Nat) : Int) := by omega
  rw [e1, u32_or_nat _ _ (by omega) (by omega), nat_join8' _ _ (by omega) (by omega), e2, u32_or_nat _ _ (by omega) (by omega), nat_join16' _ _ (by omega) (by omega), e3, u32_or_nat _ _ (by omega) (by omega), nat_join24' _ _ (by omega) (by omega)]
  omega
theorem or_u64 (a b : Nat) (ha : a < 4294967296) (hb : b < 4294967296) : bits .or .u64 (a : Int) ((b : Int) * 4294967296) = ((a + 4294967296 * b : Nat) : Int) := by
  have e : (b : Int) * 4294967296 = ((4294967296 * b : Nat) : Int) := by omega
  rw [e, u64_or_nat _ _ (by omega) (by omega), nat_join32' _ _ (by omega) (by omega), Nat.add_comm]
theorem or_u64w (a b : Nat) (ha : a < 4294967296) (hb : b < 4294967296) : bits .or .u64 (IntKind.u64.wrap (a : Int)) (IntKind.u64.wrap (IntKind.u64.wrap (b : Int) * 4294967296)) = ((a + 4294967296 * b : Nat) : Int) := by
  have e1 : IntKind.u64.wrap (a : Int) = (a : Int) := by simp [IntKind.wrap, IntKind.signed, IntKind.bits]; omega
  have e2 : IntKind.u64.wrap (b : Int) = (b : Int) := by simp [IntKind.wrap, IntKind.signed, IntKind.bits]; omega
  have e3 : IntKind.u64.wrap ((b : Int) * 4294967296) = (b : Int) * 4294967296 := by simp [IntKind.wrap, IntKind.signed, IntKind.bits]; omega
  rw [e1, e2, e3, or_u64 a b ha hb]
theorem leval_app (l m : List UInt8) : leval (l ++ m) = leval l + 256 ^ l.length * leval m := by
  induction l with
  | nil => simp [leval]
  | cons x l ih => simp only [List.cons_append, leval, ih, List.length_cons, Nat.pow_succ, Nat.mul_add, ← Nat.mul_assoc, Nat.mul_comm 256 (256 ^ l.length)]; omega

set_option maxRecDepth 100000 in
set_option maxHeartbeats 1000000 in
theorem Uint16_any (g o n c : Nat) (x0 x1 : UInt8) (w : World) (h : Cells w g o (vbs [x0, x1])) (hn : 2 ≤ n) :
    Calls Try.prog 150 #[.agg #[], .slice (some ⟨g, o, none⟩) n c] w fun e w' => e = .returned (.int .u16 ((leval [x0, x1] : Nat) : Int)) ∧ Fr [] w w' := by
  have c0 : (w.alloc (.cells #[] 95)).cell? ⟨g, o, none⟩ = some (.int .u8 ((x0.toNat : Nat) : Int)) := ((Fr.refl [] w).alloc _).cell (h 0 _ rfl) (by simp)
  have c1 : (w.alloc (.cells #[] 95)).cell? ⟨g, o + 1, none⟩ = some (.int .u8 ((x1.toNat : Nat) : Int)) := ((Fr.refl [] w).alloc _).cell (h 1 _ rfl) (by simp)
  have b0 := x0.toNat_lt
  have b1 := x1.toNat_lt
  have t1 : (0 : Int) < (n : Int) := by omega
  have t2 : (1 : Int) < (n : Int) := by omega
  have E : Hid (leval [x0, x1] = x0.toNat + 256 * x1.toNat) := rfl
  clear h
  generalize x0.toNat = y0 at *
  generalize x1.toNat = y1 at *
  go_enter Try.func150, Try.ntmps150
  go_wp2_with fail
  go_quiet (fail)
  go_wp2
  go_ret
  exact ⟨by show Ending.returned (.int .u16 (bits .or .u16 (y0 : Int) ((y1 : Int) * 256))) = _; rw [or_u16 _ _ (by omega) (by omega), E.out], ((Fr.refl [] w).alloc _).drewN _⟩

set_option maxRecDepth 100000 in
set_option maxHeartbeats 1000000 in
theorem Uint32_any (g o n c : Nat) (x0 x1 x2 x3 : UInt8) (w : World) (h : Cells w g o (vbs [x0, x1, x2, x3])) (hn : 4 ≤ n) :
    Calls Try.prog 151 #[.agg #[], .slice (some ⟨g, o, none⟩) n c] w fun e w' => e = .returned (.int .u32 ((leval [x0, x1, x2, x3] : Nat) : Int)) ∧ Fr [] w w' := by
  have c0 : (w.alloc (.cells #[] 95)).cell? ⟨g, o, none⟩ = some (.int .u8 ((x0.toNat : Nat) : Int)) := ((Fr.refl [] w).alloc _).cell (h 0 _ rfl) (by simp)
  have c1 : (w.alloc (.cells #[] 95)).cell? ⟨g, o + 1, none⟩ = some (.int .u8 ((x1.toNat : Nat) : Int)) := ((Fr.refl [] w).alloc _).cell (h 1 _ rfl) (by simp)
  have c2 : (w.alloc (.cells #[] 95)).cell? ⟨g, o + 2, none⟩ = some (.int .u8 ((x2.toNat : Nat) : Int)) := ((Fr.refl [] w).alloc _).cell (h 2 _ rfl) (by simp)
  have c3 : (w.alloc (.cells #[] 95)).cell? ⟨g, o + 3, none⟩ = some (.int .u8 ((x3.toNat : Nat) : Int)) := ((Fr.refl [] w).alloc _).cell (h 3 _ rfl) (by simp)
  have b0 := x0.toNat_lt
  have b1 := x1.toNat_lt
  have b2 := x2.toNat_lt
  have b3 := x3.toNat_lt
  have t1 : (0 : Int) < (n : Int) := by omega
  have t2 : (1 : Int) < (n : Int) := by omega
  have t3 : (2 : Int) < (n : Int) := by omega
  have t4 : (3 : Int) < (n : Int) := by omega
  have E : Hid (leval [x0, x1, x2, x3] = x0.toNat + 256 * (x1.toNat + 256 * (x2.toNat + 256 * x3.toNat))) := by show _ = _; simp [leval]
  clear h
  generalize x0.toNat = y0 at *
  generalize x1.toNat = y1 at *
  generalize x2.toNat = y2 at *
  generalize x3.toNat = y3 at *
  go_enter Try.func151, Try.ntmps151
  go_wp2_with fail
  go_quiet (fail)
  go_wp2
  go_ret
  exact ⟨by show Ending.returned (.int .u32 (bits .or .u32 (bits .or .u32 (bits .or .u32 (y0 : Int) ((y1 : Int) * 256)) ((y2 : Int) * 65536)) ((y3 : Int) * 16777216))) = _; rw [or_u32 _ _ _ _ (by omega) (by omega) (by omega) (by omega), E.out], ((Fr.refl [] w).alloc _).drewN _⟩

set_option maxRecDepth 100000 in
set_option maxHeartbeats 1000000 in
theorem Uint64_any (g o n c : Nat) (l : List UInt8) (w : World) (h : Cells w g o (vbs l)) (hl : l.length = 8) (hn : 8 ≤ n) (hc : n ≤ c) (hm : c ≤ 1099511627776) :
    Calls Try.prog 152 #[.agg #[], .slice (some ⟨g, o, none⟩) n c] w fun e w' => e = .returned (.int .u64 ((leval l : Nat) : Int)) ∧ Fr [] w w' := by
  match l, hl with
  | [x0, x1, x2, x3, x4, x5, x6, x7], _ =>
  have F0 : Fr [] w (w.alloc (.cells #[] 95)) := (Fr.refl [] w).alloc _
  have HB : Hid ((w.alloc (.cells #[] 95)).heap[w.heap.size]? = some (.cells #[] 95 (0, 0))) := blk_new _ _
  have c7 : (w.alloc (.cells #[] 95)).cell? ⟨g, o + 7, none⟩ = some (.int .u8 ((x7.toNat : Nat) : Int)) := F0.cell (h 7 _ rfl) (by simp)
  have C1 : Hid (Cells w g o (vbs [x0, x1, x2, x3])) := fun i v hi => h i v (by
    have : i < 4 := by have := (List.getElem?_eq_some_iff.1 hi).1; simpa using this
    match i, this with
    | 0, _ => exact hi
    | 1, _ => exact hi
    | 2, _ => exact hi
    | 3, _ => exact hi)
  have C2 : Hid (Cells w g (o + 4) (vbs [x4, x5, x6, x7])) := fun i v hi => by
    have := h (4 + i) v (by rw [Nat.add_comm]; exact hi)
    rwa [← Nat.add_assoc] at this
  have e1 : leval [x0, x1, x2, x3] < 4294967296 := by have := leval_lt [x0, x1, x2, x3]; simpa using this
  have e2 : leval [x4, x5, x6, x7] < 4294967296 := by have := leval_lt [x4, x5, x6, x7]; simpa using this
  have E : Hid (leval [x0, x1, x2, x3, x4, x5, x6, x7] = leval [x0, x1, x2, x3] + 4294967296 * leval [x4, x5, x6, x7]) := by show _ = _; have := leval_app [x0, x1, x2, x3] [x4, x5, x6, x7]; simpa using this
  obtain ⟨A, hA⟩ : ∃ A, leval [x0, x1, x2, x3] = A := ⟨_, rfl⟩
  obtain ⟨B, hB⟩ : ∃ B, leval [x4, x5, x6, x7] = B := ⟨_, rfl⟩
  rw [hA] at e1 E
  rw [hB] at e2 E
  have HA := Lib.hid hA
  have HBB := Lib.hid hB
  have H0 := Lib.hid F0
  have e1' : (A : Int) < 4294967296 := by omega
  have e2' : (B : Int) < 4294967296 := by omega
  have t1 : (7 : Int) < (n : Int) := by omega
  have t2 : (4 : Int) ≤ (n : Int) := by omega
  have t3 : (4 : Int) ≤ (c : Int) := by omega
  have t4 : ¬ (c : Int) = 4 := by omega
  have t5 : ¬ c = 4 := by omega
  clear h hA hB F0 e1 e2
  go_enter Try.func152, Try.ntmps152
  go_wp2_with fail
  go_region_held3 (fun _ => True) (trivial)
    (first | (have _t := HF1; go_at_call 151; go_must (refine (Uint32_any g (o + 4) _ _ x4 x5 x6 x7 _ (C2.out.fr HF1.out (by simp)) (by omega)).mono ?_); rw [HBB.out]; rintro e w2 ⟨rfl, hf2⟩; have HF2 := Lib.hid (HF1.out.then hf2); clear hf2)
           | (go_at_call 151; go_must (refine (Uint32_any g o n c x0 x1 x2 x3 _ (C1.out.fr H0.out.drew (by simp)) (by omega)).mono ?_); rw [HA.out]; rintro e w1 ⟨rfl, hf1⟩; have HF1 := Lib.hid (H0.out.drew.then hf1); clear hf1))
  all_goals
    go_wp2_with fail
    go_ret
    exact ⟨by rw [E.out, ← or_u64w A B (by omega) (by omega)]; rfl, HF2.out⟩

/-! ### the reader, and reading by many bytes -/
def RdrR (w : World) (b : Nat) (v : Value) (l : List UInt8) (off : Nat) : Prop :=
  w.heap[b]? = some (.cells #[v, .int .i64 (off : Int)] 220 (0, 0)) ∧ Sl w v (vbs l) ∧ v.ownBlock ≠ some b ∧ off ≤ l.length ∧ l.length ≤ 1099511627776
/-- A buffer (k), or a reader. -/
def SrcR (k : Bool) (w : World) (b : Nat) (v : Value) (l : List UInt8) (off : Nat) : Prop := if k then ∃ rd, BufR w b v l off rd else RdrR w b v l off
def srcT (k : Bool) : Nat := if k then 75 else 207
def srcV (k : Bool) (b : Nat) : Value := .iface (srcT k) (.pointer (some ⟨b, 0, none⟩))

/-- copy over a whole row, at a step of a region. -/
theorem copy_step {ops : Array Oper} {o : Oper} {a : Act} {w : World} {K : Act → World → Prop} {Q : Exit → Act → World → Prop} {E : Prop} (hgd : o.guard = none) (d s : Operand)
    (ho : o.op = .call { callee := .builtin .copy, args := #[d, s], argTypes := #[23, 23] }) (g dCap : Nat) (sp : Option Addr) (m sLen sCap : Nat)
    (hd : a.eval d = .slice (some ⟨g, 0, none⟩) m dCap) (hs : a.eval s = .slice sp sLen sCap) (cur : Array Value) (hg : w.heap[g]? = some (.cells cur 5 (0, 0))) (hcur : cur.size = m)
    (l : List UInt8) (hl : l.length = m) (hsl : m ≤ sLen) (ad : Addr) (hsp : sp = some ad) (hsrc : ∀ j v, (vbs l)[j]? = some v → w.cell? (ad.add j) = some v)
    (h : ∀ w', w'.heap[g]? = some (.cells (vbs l).toArray 5 (0, 0)) → Fr [g] w w' → K (a.put o.dst (.int .i64 (m : Int))) w') :
    if Region.wanted o (yielded ops a.tmps) = true then Oper.wp Try.prog o a w K Q else E := by
  have hw : Region.wanted o (yielded ops a.tmps) = true := by simp [Region.wanted, hgd]
  rw [if_pos hw]
  subst hsp
  have hn : (vbs l).length = Nat.min sLen m := by rw [List.length_map, hl, Nat.min_eq_min]; omega
  have hrun := run_copy_row (P := Try.prog) w 23 23 o.type 5 g 0 m dCap ad sLen sCap cur 5 (vbs l) Try.underlying23 (by kernel_rfl) hg hn hsrc (by simp; omega) (vbs_one l)
  unfold Oper.wp
  simp [execOp, ho, resolve, invoke, builtin, hd, hs, hrun, Result.andThen]
  have e : (List.map vb l ++ List.drop l.length cur.toList) = vbs l := by
    rw [List.drop_of_length_le (by simp; omega), List.append_nil]
  rw [e, hl]
  exact h _ (setRow_heap w g _ _ _ _ hg) ⟨rfl, rfl, rfl, by simp [World.setRow], fun k hk hn => setRow_other w g k _ (by simpa using hn)⟩

theorem drop_take_cells {w : World} {g o : Nat} {l : List UInt8} (h : Cells w g o (vbs l)) (off m : Nat) : Cells w g (o + off) (vbs ((l.drop off).take m)) := by
  have := (h.drop off).take m
  simpa [List.map_drop, List.map_take] using this

set_option maxRecDepth 100000 in
set_option maxHeartbeats 2000000 in
theorem BufRead_any (b : Nat) (v : Value) (l : List UInt8) (off : Nat) (rd : Bool) (g m c : Nat) (cur : Array Value) (w : World) (h : BufR w b v l off rd) (hm : 0 < m) (ho : off + m ≤ l.length)
    (hg : w.heap[g]? = some (.cells cur 5 (0, 0))) (hcur : cur.size = m) (hgb : g ≠ b) (hgv : v.ownBlock ≠ some g) :
    Calls Try.prog 128 #[.pointer (some ⟨b, 0, none⟩), .slice (some ⟨g, 0, none⟩) m c] w fun e w' =>
      e = .returned (.tuple #[.int .i64 (m : Int), .nilIface]) ∧ BufR w' b v l (off + m) true ∧ w'.heap[g]? = some (.cells (vbs ((l.drop off).take m)).toArray 5 (0, 0)) ∧ Fr [b, g] w w' := by
  obtain ⟨hb, hs, hne, -, hl⟩ := h
  obtain ⟨a, cc, rfl, h1, h2, h3, -⟩ := hs.shape
  obtain ⟨gs, os, rfl, hc⟩ := h3 (by omega)
  have hne' : Hid (gs ≠ b) := by show gs ≠ b; simpa [Value.ownBlock] using hne
  have hgv' : Hid (gs ≠ g) := by show gs ≠ g; simpa [Value.ownBlock] using hgv
  have hgb' := Lib.hid hgb
  unfold maxLen at h2
  have c2 : w.cell? ⟨b, 2, none⟩ = some (.bool rd) := by rw [blk_cell hb]; rfl
  have f2 : w.frozen? ⟨b, 2, none⟩ = false := blk_free hb _
  have hb1 : (w.setCell ⟨b, 2, none⟩ (.bool false)).heap[b]? = some (.cells #[.slice (some ⟨gs, os, none⟩) l.length cc, .int .i64 (off : Int), .bool false] 79 (0, 0)) := by simpa using blk_set hb 2 (.bool false)
  have hF1 : Fr [b] w (w.setCell ⟨b, 2, none⟩ (.bool false)) := (Fr.refl _ _).setCell (.inl (by simp)) _
  have hB1 : BufR (w.setCell ⟨b, 2, none⟩ (.bool false)) b (.slice (some ⟨gs, os, none⟩) l.length cc) l off false := ⟨hb1, hs.fr hF1 (by intro g' hg'; simp [Value.ownBlock] at hg'; subst hg'; simpa using hne'.out), by simpa [Value.ownBlock] using hne'.out, by omega, hl⟩
  generalize hw1 : w.setCell ⟨b, 2, none⟩ (.bool false) = w1 at *
  have c0 : w1.cell? ⟨b, 0, none⟩ = some (.slice (some ⟨gs, os, none⟩) l.length cc) := by rw [blk_cell hb1]; rfl
  have c1 : w1.cell? ⟨b, 1, none⟩ = some (.int .i64 (off : Int)) := by rw [blk_cell hb1]; rfl
  have Hc : Hid (Cells w1 gs (os + off) (vbs ((l.drop off).take m))) := drop_take_cells (hc.fr hF1 (by simpa using hne'.out)) off m
  have Hg1 : Hid (w1.heap[g]? = some (.cells cur 5 (0, 0))) := hF1.get hg (by simpa using hgb)
  have HB1 := Lib.hid hB1
  have Hb1 := Lib.hid hb1
  have HF1 := Lib.hid hF1
  have Hcur := Lib.hid hcur
  have Hs := Lib.hid hs
  have Hw1 := Lib.hid hw1
  have Hml : Hid (((l.drop off).take m).length = m) := by show _ = _; rw [List.length_take, List.length_drop]; omega
  have hlen : (off : Int) ≤ (l.length : Int) := by omega
  have hcap : (off : Int) ≤ (cc : Int) := by omega
  have hcap2 : ¬ cc = off := by omega
  have hlo : m ≤ l.length - off := by omega
  have hx : 0 < l.length - off := by omega
  have hne2 : (((l.length - off : Nat) : Int) == 0) = false := by simp; omega
  clear hb hs hne h1 h3 hgb hgv hc hg hcur hb1 hF1 hB1 hw1
  go_enter Try.func128, Try.ntmps128
  go_wp2_with (go_at_call 69; rw [Hw1.out]; refine (BufLen_any b _ l off (l.length - off) false _ HB1.out (by omega)).mono ?_; rintro e w' ⟨rfl, k, rfl⟩)
  go_region_held3 (fun w' => w'.cell? ⟨b, 0, none⟩ = some (.slice (some ⟨gs, os, none⟩) l.length cc) ∧ w'.cell? ⟨b, 1, none⟩ = some (.int .i64 (off : Int)))
    (first | exact ⟨HF2.out.cell c0 (by simpa using hgb'.out.symm), HF2.out.cell c1 (by simpa using hgb'.out.symm)⟩ | exact ⟨c0, c1⟩)
    ((refine copy_step (by rfl) _ _ (by rfl) g c (some ⟨gs, os + off, none⟩) m (l.length - off) (cc - off) (by rfl) (by rfl) cur Hg1.out Hcur.out _ Hml.out hlo ⟨gs, os + off, none⟩ (by rfl) (fun j v hj => by rw [Addr.add_lit]; exact Hc.out j v hj) ?_; intro w2 hg2 hf2; have Hg2 := Lib.hid hg2; have HF2 : Hid (Fr [g] w1 w2) := ⟨hf2.os, hf2.tape, hf2.output, hf2.size, hf2.blk⟩; clear hg2 hf2))
  all_goals
    have hb2 : w2.heap[b]? = some (.cells #[.slice (some ⟨gs, os, none⟩) l.length cc, .int .i64 (off : Int), .bool false] 79 (0, 0)) := HF2.out.get Hb1.out (by simpa using hgb'.out.symm)
    have d1 : w2.cell? ⟨b, 1, none⟩ = some (.int .i64 (off : Int)) := by rw [blk_cell hb2]; rfl
    have d2 : w2.cell? ⟨b, 2, none⟩ = some (.bool false) := by rw [blk_cell hb2]; rfl
    have e1 : w2.frozen? ⟨b, 1, none⟩ = false := blk_free hb2 _
    have e2 : w2.frozen? ⟨b, 2, none⟩ = false := blk_free hb2 _
    have hmi : (0 : Int) < (m : Int) := by omega
    have Hb2 := Lib.hid hb2
    clear hb2 c0 c1
    go_wp2
    go_ret2
    refine ⟨rfl, ⟨?_, ?_, by simpa [Value.ownBlock] using hne'.out, by omega, hl⟩, ?_, ?_⟩
    · simpa using blk_set (w := w2.setCell ⟨b, 1, none⟩ (.int .i64 ((off : Int) + m))) (blk_set (w := w2) Hb2.out 1 _) 2 (.bool true)
    · refine Hs.out.fr (bs := [b, g]) ((((HF1.out.mono (bs := [b, g]) (by simp)).trans HF2.out (by simp)).setCell (.inl (by simp)) _).setCell (.inl (by simp)) _) ?_
      intro g' hg'; simp [Value.ownBlock] at hg'; subst hg'; simpa using ⟨hne'.out, hgv'.out⟩
    · have := blk_set_other (blk_set_other Hg2.out (i := 1) (u := .int .i64 ((off : Int) + m)) hgb'.out) (i := 2) (u := .bool true) hgb'.out
      simpa using this
    · exact (((HF1.out.mono (bs := [b, g]) (by simp)).trans HF2.out (by simp)).setCell (.inl (by simp)) _).setCell (.inl (by simp)) _
end Go.Proofs.Ytahohmdfllgedaa

namespace Go.Proofs.Ytahohmdfllgedaa
open Go.RowKit

structure LPiece where
  kind : Int
  value : Int
  size : Int
  bytes : List UInt8
  stk : Bool
structure LSt where
  stack : List Int
  pieces : List LPiece
  loc : Option LPiece
  left : Bool
  bad : Bool
def LSt.mkBad (s : LSt) : LSt := { s with bad := true }
def LSt.mkLeft (s : LSt) : LSt := { s with left := true }
def pushS (v : Int) (s : LSt) : LSt := { s with stack := s.stack ++ [v] }
def popS (s : LSt) : Int × LSt :=
  match s.stack.getLast? with
  | none => (0, s.mkBad)
  | some v => (v, { s with stack := s.stack.dropLast })
def registerS (x : LWorld) (n : Int) (s : LSt) : Int × LSt :=
  if 0 ≤ n ∧ n < x.regs.length then (wrap64 ((x.regs.getD n.toNat 0 : Nat) : Int), s) else (0, s.mkBad)
def loadS (x : LWorld) (a n : Nat) (s : LSt) : Int × LSt :=
  if x.at_ ≤ a ∧ a - x.at_ ≤ x.mem.length ∧ n ≤ x.mem.length - (a - x.at_) then (wrap64 ((leval ((x.mem.drop (a - x.at_)).take n) : Nat) : Int), s)
  else (0, s.mkBad)
def placeS (p : LPiece) (s : LSt) : LSt := if s.stack = [] then { s with loc := some p } else s.mkLeft
def jumpS (c : LCall) (s : LSt) : Int × Bool × LSt :=
  if c.op = 47 then (c.a, true, s)
  else if c.op = 40 then
    if (popS s).1 ≠ 0 then (c.a, true, (popS s).2) else (0, false, (popS s).2.mkLeft)
  else (0, false, s)
/-- What a piece of n bytes makes of a location. -/
def pieceOf (n : Int) (p : LPiece) : LPiece := if p.stk = true ∧ n ≤ 8 then { p with bytes := leL (u64of p.value) n.toNat, size := n } else p
def pieceS (n : Int) (s : LSt) : LSt :=
  if n = 0 then s.mkLeft
  else match s.loc with
    | some p => { s with left := s.left || decide ((pieceOf n p).kind = 2 ∧ (pieceOf n p).size ≠ n), pieces := s.pieces ++ [{ pieceOf n p with size := n }], loc := none }
    | none =>
      if s.stack.length = 1 then { (popS s).2 with pieces := s.pieces ++ [⟨0, (popS s).1, n, [], false⟩] }
      else s.mkLeft
def shiftS (op a b : Int) (s : LSt) : LSt :=
  if b < 0 ∨ 63 < b then s.mkLeft
  else if op = 36 then pushS (wrap64 (a * 2 ^ b.toNat)) s
  else if op = 37 then pushS (wrap64 (IntKind.u64.wrap a / 2 ^ b.toNat)) s
  else pushS (a / 2 ^ b.toNat) s
def truthI (b : Bool) : Int := if b then 1 else 0
def twoS (op a b : Int) (s : LSt) : LSt :=
  if op = 26 then pushS (bits .and .i64 a b) s
  else if op = 33 then pushS (bits .or .i64 a b) s
  else if op = 39 then pushS (bits .xor .i64 a b) s
  else if op = 34 then pushS (wrap64 (a + b)) s
  else if op = 28 then pushS (wrap64 (a - b)) s
  else if op = 30 then pushS (wrap64 (a * b)) s
  else if op = 27 then (if b = 0 then s.mkBad else pushS (wrap64 (a.tdiv b)) s)
  else if op = 29 then (if b = 0 then s.mkBad else if a < 0 ∨ b < 0 then s.mkLeft else pushS (a % b) s)
  else if op = 36 ∨ op = 37 ∨ op = 38 then shiftS op a b s
  else if op = 41 then pushS (truthI (decide (a = b))) s
  else if op = 46 then pushS (truthI (a != b)) s
  else if op = 42 then pushS (truthI (decide (b ≤ a))) s
  else if op = 43 then pushS (truthI (decide (b < a))) s
  else if op = 44 then pushS (truthI (decide (a ≤ b))) s
  else if op = 45 then pushS (truthI (decide (a < b))) s
  else s
def operateS (x : LWorld) (c : LCall) (s : LSt) : LSt :=
  if c.op = 18 then pushS (popS s).1 (pushS (popS s).1 (popS s).2)
  else if c.op = 19 then (popS s).2
  else if c.op = 20 ∨ c.op = 21 then
    if (s.stack.length : Int) ≤ (if c.op = 21 then c.a else 1) then s.mkBad
    else pushS (s.stack.getD ((s.stack.length : Int) - 1 - (if c.op = 21 then c.a else 1)).toNat 0) s
  else if c.op = 22 then pushS (popS (popS s).2).1 (pushS (popS s).1 (popS (popS s).2).2)
  else if c.op = 23 then
    pushS (popS (popS s).2).1 (pushS (popS (popS (popS s).2).2).1 (pushS (popS s).1 (popS (popS (popS s).2).2).2))
  else if c.op = 6 then pushS (loadS x (u64of (popS s).1) 8 (popS s).2).1 (loadS x (u64of (popS s).1) 8 (popS s).2).2
  else if c.op = 148 then
    if c.a ≠ 2 ∧ c.a ≠ 4 ∧ c.a ≠ 8 then s.mkLeft
    else pushS (loadS x (u64of (popS s).1) c.a.toNat (popS s).2).1 (loadS x (u64of (popS s).1) c.a.toNat (popS s).2).2
  else if c.op = 25 then pushS (if (popS s).1 < 0 then wrap64 (-(popS s).1) else (popS s).1) (popS s).2
  else if c.op = 31 then pushS (wrap64 (-(popS s).1)) (popS s).2
  else if c.op = 32 then pushS (bits .xor .i64 (-1) (popS s).1) (popS s).2
  else if c.op = 35 then pushS (wrap64 ((popS s).1 + c.a)) (popS s).2
  else twoS c.op (popS (popS s).2).1 (popS s).1 (popS (popS s).2).2
def doS (x : LWorld) (c : LCall) (s : LSt) : LSt :=
  if s.loc.isSome = true ∧ c.op ≠ 147 then s.mkLeft
  else if 48 ≤ c.op ∧ c.op < 80 then pushS (c.op - 48) s
  else if 80 ≤ c.op ∧ c.op < 112 then placeS ⟨1, c.op - 80, 0, [], false⟩ s
  else if 112 ≤ c.op ∧ c.op < 144 then pushS (wrap64 ((registerS x (c.op - 112) s).1 + c.a)) (registerS x (c.op - 112) s).2
  else if c.op = 144 then placeS ⟨1, c.a, 0, [], false⟩ s
  else if c.op = 146 then pushS (wrap64 ((registerS x c.a s).1 + c.b)) (registerS x c.a s).2
  else if c.op = 145 then pushS (wrap64 (x.base + c.a)) s
  else if c.op = 156 then pushS x.cfa (if x.cfa = 0 then s.mkLeft else s)
  else if c.op = 3 ∨ (8 ≤ c.op ∧ c.op ≤ 17) then pushS c.a s
  else if c.op = 158 then placeS ⟨2, 0, (c.data.length : Nat), c.data, false⟩ s
  else if c.op = 159 then placeS ⟨2, (popS s).1, 0, [], true⟩ (popS s).2
  else if c.op = 147 then pieceS c.a s
  else if c.op = 150 then s
  else operateS x c s

/-! ### an evaluation -/
inductive Out
  | left
  | bad
  | fine (s : LSt)
def finishS (s : LSt) : Out :=
  if s.pieces ≠ [] then (if s.loc.isSome = true ∨ s.stack ≠ [] then .left else .fine s)
  else if s.loc.isSome = true then .fine s
  else if s.stack = [] then .left else .fine s
/-- One step: where it goes on, and the state behind it. -/
def stepS (x : LWorld) (c : LCall) (at_ : Nat) (s : LSt) : Int × LSt :=
  if s.loc.isSome = true ∧ (c.op = 40 ∨ c.op = 47) then ((at_ : Int), s.mkLeft)
  else if (jumpS c s).2.1 = true then ((jumpS c s).1, (jumpS c s).2.2)
  else ((at_ : Int), doS x c (jumpS c s).2.2)
/-- The evaluation from the operation k on; fuel: how many steps are still allowed. -/
def runS (x : LWorld) (l : List LCall) : Nat → Nat → LSt → Out
  | fuel, k, s =>
    if h : k < l.length then
      match fuel with
      | 0 => .left
      | fuel + 1 =>
        if (stepS x l[k] (k + 1) s).2.left = true then .left
        else if (stepS x l[k] (k + 1) s).2.bad = true then .bad
        else runS x l fuel (stepS x l[k] (k + 1) s).1.toNat (stepS x l[k] (k + 1) s).2
    else finishS s
def st0 : LSt := ⟨[], [], none, false, false⟩
def fuelOf (n : Nat) : Nat := min 500 (8 * n) + 1
def evalS (x : LWorld) (l : List LCall) (n : Nat) : Out := runS x l (fuelOf n) 0 st0
end Go.Proofs.Ytahohmdfllgedaa

namespace Go.Proofs.Ytahohmdfllgedaa
open Go.RowKit

theorem run_app3 {P : Program} {t e : TypeId} {z : Value} {size bytes : Nat} (S : SliceT P t e z size bytes) (ty : TypeId) (w : World) (base : Nat)
    (v : Value) (n : Nat) (xs : List Value) (hown : w.ownsRow base e size v n xs)
    (ao : Option Addr) (m c : Nat) (news : List Value) (hl : news.length = m * size) (hnone : ao = none → m = 0 ∧ c = 0)
    (hnews : ∀ ad, ao = some ad → ∀ j u, news[j]? = some u → w.cell? (ad.add j) = some u) (h1 : ∀ u ∈ news, u.oneCell' = true)
    (hlen : n + m ≤ 1099511627776) (hb : bytes ≤ 64) (hbase : base ≤ w.heap.size) :
    ∃ v' w', (Builtin.append_ #[t, t] ty #[v, .slice ao m c]).run P w = .ok v' w' ∧ w'.ownsRow base e size v' (n + m) (xs ++ news) ∧ Fr v.ownBlock.toList w w' ∧
      (∀ g, v'.ownBlock = some g → v.ownBlock = some g ∨ w.heap.size ≤ g) ∧ (∀ g, v.ownBlock = some g → ∀ i u, xs[i]? = some u → w'.cell? ⟨g, i, none⟩ = some u) := by
  obtain ⟨v', w', hr, ho, hf, hg⟩ := run_app2 (P := P) S ty w base v n xs hown ao m c news hl hnone hnews h1 hlen hb hbase
  refine ⟨v', w', hr, ho, hf, hg, fun g hgv i u hu => ?_⟩
  have hold : w.cell? ⟨g, i, none⟩ = some u := by have := hown.cells hgv i u hu; rwa [Addr.add_lit, Nat.zero_add] at this
  have hdet : ∀ v'' w'', (Builtin.append_ #[t, t] ty #[v, .slice ao m c]).run P w = .ok v'' w'' → v'' = v' ∧ w'' = w' := by
    intro v'' w'' h2; rw [hr] at h2; cases h2; exact ⟨rfl, rfl⟩
  obtain ⟨q, hq, hz, hs, hby⟩ := info_parts S.info
  cases ao with
  | none =>
    obtain ⟨rfl, rfl⟩ := hnone rfl
    obtain ⟨-, rfl⟩ := hdet _ _ (run_append_owned_none (P := P) w base t ty e q size S.und hq v n xs hown)
    exact hold
  | some ad =>
    have hm : n + m ≤ maxLen := by unfold maxLen; omega
    have hbb : (n + m) * bytes ≤ 140737488355328 := Nat.le_trans (Nat.mul_le_mul hlen hb) (by decide)
    rcases hown.2 with ⟨rfl, rfl⟩ | ⟨b, cap, cur, rfl, hbg, hhb, hnc, hcm, hcs, htake⟩
    · simp [Value.ownBlock] at hgv
    · have hbg2 : b = g := by simpa [Value.ownBlock] using hgv
      subst hbg2
      by_cases hroom : n + m ≤ cap
      · have hfit : n * q.size + news.length ≤ cur.size := by rw [hl, hcs, hs, ← Nat.add_mul]; exact Nat.mul_le_mul_right _ hroom
        have h2 := run_append_room (P := P) w t ty e q S.und hq b n cap cur hhb ad m c news (by rw [hs]; exact hl) (hnews ad rfl) h1 hroom hfit
        obtain ⟨rfl, -⟩ := hdet _ _ h2
        have := ho.cells (g := b) rfl i u (by rw [List.getElem?_append_left (List.getElem?_eq_some_iff.1 hu).1]; exact hu)
        rwa [Addr.add_lit, Nat.zero_add] at this
      · have holds : ∀ j u, xs[j]? = some u → w.cell? ((⟨b, 0, none⟩ : Addr).add j) = some u := hown.cells (g := b) rfl
        have h2 := run_append_grow (P := P) w t ty e q z S.und hq hz ⟨b, 0, none⟩ n cap xs (by rw [hs]; exact hown.1) holds ad m c news (by rw [hs]; exact hl) (hnews ad rfl) (by omega) (by omega) (growslice_fits (by omega) (by rw [hby]; exact hbb))
        obtain ⟨-, rfl⟩ := hdet _ _ h2
        exact (((Fr.refl [] w).drew).alloc _).cell hold (by simp)

theorem wpList_app3 {P : Program} {t e : TypeId} {z : Value} {size bytes : Nat} (S : SliceT P t e z size bytes) (w : World) {ops : Array Oper} {rest : List Oper} {o : Oper} {a : Act} {Q : Exit → Act → World → Prop}
    (hgd : o.guard = none) (s x : Operand) (ho : o.op = .call { callee := .builtin .append, args := #[s, x], argTypes := #[t, t] }) (base : Nat)
    (v : Value) (n : Nat) (xs : List Value) (hs : a.eval s = v) (hown : w.ownsRow base e size v n xs)
    (ao : Option Addr) (m c : Nat) (news : List Value) (hx : a.eval x = .slice ao m c) (hl : news.length = m * size) (hnone : ao = none → m = 0 ∧ c = 0)
    (hnews : ∀ ad, ao = some ad → ∀ j u, news[j]? = some u → w.cell? (ad.add j) = some u) (h1 : ∀ u ∈ news, u.oneCell' = true)
    (hlen : n + m ≤ 1099511627776) (hb : bytes ≤ 64) (hbase : base ≤ w.heap.size)
    (h : ∀ a' c' w', w'.ownsRow base e size (.slice a' (n + m) c') (n + m) (xs ++ news) → Fr v.ownBlock.toList w w' → (∀ g, (Value.slice a' (n + m) c').ownBlock = some g → v.ownBlock = some g ∨ w.heap.size ≤ g) →
      (∀ g, v.ownBlock = some g → ∀ i u, xs[i]? = some u → w'.cell? ⟨g, i, none⟩ = some u) → wpList P ops Q rest (a.put o.dst (.slice a' (n + m) c')) w') :
    wpList P ops Q (o :: rest) a w := by
  refine wpList_plain hgd fun K hK => ?_
  obtain ⟨v', w', hr, h2, h3, h4, h5⟩ := run_app3 (P := P) S o.type w base v n xs hown ao m c news hl hnone hnews h1 hlen hb hbase
  unfold Oper.wp execOp
  simp only [ho, resolve, invoke, builtin, Sem.run_bind, Sem.run_pure, Result.andThen_ok, List.map_toArray, List.map_cons, List.map_nil, hs, hx, hr]
  obtain ⟨a', c', rfl⟩ := own_slice h2
  exact hK _ _ (h a' c' w' h2 h3 h4 h5)

theorem step_app3 {P : Program} {t e : TypeId} {z : Value} {size bytes : Nat} (S : SliceT P t e z size bytes) (w : World) {ops : Array Oper} {o : Oper} {a : Act} {K : Act → World → Prop} {Q : Exit → Act → World → Prop} {E : Prop}
    (hgd : o.guard = none) (s x : Operand) (ho : o.op = .call { callee := .builtin .append, args := #[s, x], argTypes := #[t, t] }) (base : Nat)
    (v : Value) (n : Nat) (xs : List Value) (hs : a.eval s = v) (hown : w.ownsRow base e size v n xs)
    (ao : Option Addr) (m c : Nat) (news : List Value) (hx : a.eval x = .slice ao m c) (hl : news.length = m * size) (hnone : ao = none → m = 0 ∧ c = 0)
    (hnews : ∀ ad, ao = some ad → ∀ j u, news[j]? = some u → w.cell? (ad.add j) = some u) (h1 : ∀ u ∈ news, u.oneCell' = true)
    (hlen : n + m ≤ 1099511627776) (hb : bytes ≤ 64) (hbase : base ≤ w.heap.size)
    (h : ∀ a' c' w', w'.ownsRow base e size (.slice a' (n + m) c') (n + m) (xs ++ news) → Fr v.ownBlock.toList w w' → (∀ g, (Value.slice a' (n + m) c').ownBlock = some g → v.ownBlock = some g ∨ w.heap.size ≤ g) →
      (∀ g, v.ownBlock = some g → ∀ i u, xs[i]? = some u → w'.cell? ⟨g, i, none⟩ = some u) → K (a.put o.dst (.slice a' (n + m) c')) w') :
    if Region.wanted o (yielded ops a.tmps) = true then Oper.wp P o a w K Q else E := by
  have hw : Region.wanted o (yielded ops a.tmps) = true := by simp [Region.wanted, hgd]
  rw [if_pos hw]
  obtain ⟨v', w', hr, h2, h3, h4, h5⟩ := run_app3 (P := P) S o.type w base v n xs hown ao m c news hl hnone hnews h1 hlen hb hbase
  unfold Oper.wp execOp
  simp only [ho, resolve, invoke, builtin, Sem.run_bind, Sem.run_pure, Result.andThen_ok, List.map_toArray, List.map_cons, List.map_nil, hs, hx, hr]
  obtain ⟨a', c', rfl⟩ := own_slice h2
  exact h a' c' w' h2 h3 h4 h5
end Go.Proofs.Ytahohmdfllgedaa

namespace Go.Proofs.Ytahohmdfllgedaa
open Go.RowKit

def btype (w : World) (k : Nat) : Option TypeId := match w.heap[k]? with | some (.cells _ t _) => some t | _ => none
theorem btype_of {w : World} {k : Nat} {cs : Array Value} {t : TypeId} {fz : Nat × Nat} (h : w.heap[k]? = some (.cells cs t fz)) : btype w k = some t := by simp [btype, h]
theorem btype_congr {w w' : World} {k : Nat} (h : w'.heap[k]? = w.heap[k]?) : btype w' k = btype w k := by simp [btype, h]

structure FrT (T : List TypeId) (w w' : World) : Prop where
  os : w'.os = w.os
  tape : w'.tape = w.tape
  output : w'.output = w.output
  size : w.heap.size ≤ w'.heap.size
  blk : ∀ k, k < w.heap.size → w'.heap[k]? = w.heap[k]? ∨ ∃ t, t ∈ T ∧ btype w k = some t ∧ btype w' k = some t

section
variable {T : List TypeId} {a b c : World}
theorem FrT.refl (T : List TypeId) (w : World) : FrT T w w := ⟨rfl, rfl, rfl, Nat.le_refl _, fun _ _ => .inl rfl⟩
theorem FrT.trans (h : FrT T a b) (k : FrT T b c) : FrT T a c :=
  ⟨k.os.trans h.os, k.tape.trans h.tape, k.output.trans h.output, Nat.le_trans h.size k.size, fun i hi => by
    rcases k.blk i (Nat.lt_of_lt_of_le hi h.size) with e | ⟨t, ht, e1, e2⟩
    · rcases h.blk i hi with e' | ⟨t', ht', e1', e2'⟩
      · exact .inl (e.trans e')
      · exact .inr ⟨t', ht', e1', (btype_congr e).trans e2'⟩
    · rcases h.blk i hi with e' | ⟨t', ht', e1', e2'⟩
      · exact .inr ⟨t, ht, (btype_congr e').symm.trans e1, e2⟩
      · rw [e2'] at e1; cases e1; exact .inr ⟨_, ht', e1', e2⟩⟩
theorem FrT.of {bs : List Nat} (f : Fr bs a b) (h : ∀ k, k ∈ bs → k < a.heap.size → ∃ t, t ∈ T ∧ btype a k = some t ∧ btype b k = some t) : FrT T a b :=
  ⟨f.os, f.tape, f.output, f.size, fun k hk => by
    by_cases hm : k ∈ bs
    · exact .inr (h k hm hk)
    · exact .inl (f.blk k hk hm)⟩
theorem FrT.of0 (f : Fr [] a b) : FrT T a b := FrT.of f (by simp)
theorem FrT.then (h : FrT T a b) (f : Fr [] b c) : FrT T a c := h.trans (.of0 f)
theorem FrT.alloc (h : FrT T a b) (o : Obj) : FrT T a (b.alloc o) := h.then ((Fr.refl _ _).alloc _)
theorem FrT.drew (h : FrT T a b) : FrT T a b.drew := h.then ((Fr.refl _ _).drew)
theorem FrT.drewN (h : FrT T a b) (n : Nat) : FrT T a (b.drewN n) := h.then ((Fr.refl _ _).drewN n)
theorem FrT.setCell (h : FrT T a b) {g i : Nat} {cs : Array Value} {t : TypeId} {fz : Nat × Nat} (hg : b.heap[g]? = some (.cells cs t fz)) (ht : t ∈ T) (u : Value) : FrT T a (b.setCell ⟨g, i, none⟩ u) :=
  h.trans (FrT.of (bs := [g]) ((Fr.refl _ _).setCell (.inl (by simp)) _) (fun k hk _ => by
    simp at hk; subst hk
    exact ⟨t, ht, btype_of hg, btype_of (blk_set hg i u)⟩))
theorem FrT.mono {T' : List TypeId} (h : FrT T a b) (hs : ∀ t, t ∈ T → t ∈ T') : FrT T' a b :=
  ⟨h.os, h.tape, h.output, h.size, fun k hk => (h.blk k hk).imp id (fun ⟨t, ht, e⟩ => ⟨t, hs t ht, e⟩)⟩
theorem FrT.get (h : FrT T a b) {k : Nat} {cs : Array Value} {t : TypeId} {fz : Nat × Nat} (hk : a.heap[k]? = some (.cells cs t fz)) (hn : t ∉ T) : b.heap[k]? = some (.cells cs t fz) := by
  rcases h.blk k (lt_heap hk) with e | ⟨t', ht, e1, _⟩
  · exact e.trans hk
  · rw [btype_of hk] at e1; cases e1; exact absurd ht hn
theorem FrT.own (h : FrT T a b) {base e sz : Nat} {v : Value} {vs : List Value} {n : Nat} (o : a.ownsRow base e sz v n vs) (he : e ∉ T) : b.ownsRow base e sz v n vs := by
  refine ⟨o.1, ?_⟩
  rcases o.2 with hh | ⟨g, cap, cur, rfl, hb, hg, rest⟩
  · exact .inl hh
  · exact .inr ⟨g, cap, cur, rfl, hb, h.get hg he, rest⟩
/-- A frame inside new blocks is none. -/
theorem Fr.new {bs : List Nat} (f : Fr bs a b) (h : ∀ k, k ∈ bs → a.heap.size ≤ k) : Fr [] a b := f.mono (fun k hk hlt => by have := h k hk; omega)
theorem own_btype {w : World} {base e sz : Nat} {v : Value} {vs : List Value} {n : Nat} (o : w.ownsRow base e sz v n vs) {g : Nat} (hg : v.ownBlock = some g) : btype w g = some e := by
  rcases o.2 with ⟨rfl, -⟩ | ⟨g', cap, cur, rfl, hb, hh, -⟩
  · simp [Value.ownBlock] at hg
  · simp [Value.ownBlock] at hg; subst hg; exact btype_of hh
end

/-! ### append, with such a frame -/
theorem run_app4 {P : Program} {t e : TypeId} {z : Value} {size bytes : Nat} (S : SliceT P t e z size bytes) (ty : TypeId) (w : World) (base : Nat)
    (v : Value) (n : Nat) (xs : List Value) (hown : w.ownsRow base e size v n xs)
    (ao : Option Addr) (m c : Nat) (news : List Value) (hl : news.length = m * size) (hnone : ao = none → m = 0 ∧ c = 0)
    (hnews : ∀ ad, ao = some ad → ∀ j u, news[j]? = some u → w.cell? (ad.add j) = some u) (h1 : ∀ u ∈ news, u.oneCell' = true)
    (hlen : n + m ≤ 1099511627776) (hb : bytes ≤ 64) (hbase : base ≤ w.heap.size) :
    ∃ v' w', (Builtin.append_ #[t, t] ty #[v, .slice ao m c]).run P w = .ok v' w' ∧ w'.ownsRow base e size v' (n + m) (xs ++ news) ∧ Fr v.ownBlock.toList w w' ∧
      (∀ g, v'.ownBlock = some g → v.ownBlock = some g ∨ w.heap.size ≤ g) ∧ FrT [e] w w' := by
  obtain ⟨v', w', hr, ho, hf, hg⟩ := run_app2 (P := P) S ty w base v n xs hown ao m c news hl hnone hnews h1 hlen hb hbase
  refine ⟨v', w', hr, ho, hf, hg, FrT.of hf fun g hgv hlt => ?_⟩
  have hgv' : v.ownBlock = some g := by simpa using hgv
  refine ⟨e, by simp, own_btype hown hgv', ?_⟩
  have hdet : ∀ v'' w'', (Builtin.append_ #[t, t] ty #[v, .slice ao m c]).run P w = .ok v'' w'' → v'' = v' ∧ w'' = w' := by
    intro v'' w'' h2; rw [hr] at h2; cases h2; exact ⟨rfl, rfl⟩
  obtain ⟨q, hq, hz, hs, hby⟩ := info_parts S.info
  cases ao with
  | none =>
    obtain ⟨rfl, rfl⟩ := hnone rfl
    obtain ⟨-, rfl⟩ := hdet _ _ (run_append_owned_none (P := P) w base t ty e q size S.und hq v n xs hown)
    exact own_btype hown hgv'
  | some ad =>
    rcases hown.2 with ⟨rfl, rfl⟩ | ⟨b, cap, cur, rfl, hbg, hhb, hnc, hcm, hcs, htake⟩
    · simp [Value.ownBlock] at hgv
    · have hbg2 : b = g := by simpa [Value.ownBlock] using hgv'
      subst hbg2
      have hm : n + m ≤ maxLen := by unfold maxLen; omega
      have hbb : (n + m) * bytes ≤ 140737488355328 := Nat.le_trans (Nat.mul_le_mul hlen hb) (by decide)
      by_cases hroom : n + m ≤ cap
      · have hfit : n * q.size + news.length ≤ cur.size := by rw [hl, hcs, hs, ← Nat.add_mul]; exact Nat.mul_le_mul_right _ hroom
        have h2 := run_append_room (P := P) w t ty e q S.und hq b n cap cur hhb ad m c news (by rw [hs]; exact hl) (hnews ad rfl) h1 hroom hfit
        obtain ⟨rfl, -⟩ := hdet _ _ h2
        exact own_btype ho rfl
      · have holds : ∀ j u, xs[j]? = some u → w.cell? ((⟨b, 0, none⟩ : Addr).add j) = some u := hown.cells (g := b) rfl
        have h2 := run_append_grow (P := P) w t ty e q z S.und hq hz ⟨b, 0, none⟩ n cap xs (by rw [hs]; exact hown.1) holds ad m c news (by rw [hs]; exact hl) (hnews ad rfl) (by omega) (by omega) (growslice_fits (by omega) (by rw [hby]; exact hbb))
        obtain ⟨-, rfl⟩ := hdet _ _ h2
        exact btype_of ((((Fr.refl [] w).drew).alloc _).get hhb (by simp))

theorem wpList_app4 {P : Program} {t e : TypeId} {z : Value} {size bytes : Nat} (S : SliceT P t e z size bytes) (w : World) {ops : Array Oper} {rest : List Oper} {o : Oper} {a : Act} {Q : Exit → Act → World → Prop}
    (hgd : o.guard = none) (s x : Operand) (ho : o.op = .call { callee := .builtin .append, args := #[s, x], argTypes := #[t, t] }) (base : Nat)
    (v : Value) (n : Nat) (xs : List Value) (hs : a.eval s = v) (hown : w.ownsRow base e size v n xs)
    (ao : Option Addr) (m c : Nat) (news : List Value) (hx : a.eval x = .slice ao m c) (hl : news.length = m * size) (hnone : ao = none → m = 0 ∧ c = 0)
    (hnews : ∀ ad, ao = some ad → ∀ j u, news[j]? = some u → w.cell? (ad.add j) = some u) (h1 : ∀ u ∈ news, u.oneCell' = true)
    (hlen : n + m ≤ 1099511627776) (hb : bytes ≤ 64) (hbase : base ≤ w.heap.size)
    (h : ∀ a' c' w', w'.ownsRow base e size (.slice a' (n + m) c') (n + m) (xs ++ news) → Fr v.ownBlock.toList w w' → (∀ g, (Value.slice a' (n + m) c').ownBlock = some g → v.ownBlock = some g ∨ w.heap.size ≤ g) →
      FrT [e] w w' → wpList P ops Q rest (a.put o.dst (.slice a' (n + m) c')) w') :
    wpList P ops Q (o :: rest) a w := by
  refine wpList_plain hgd fun K hK => ?_
  obtain ⟨v', w', hr, h2, h3, h4, h5⟩ := run_app4 (P := P) S o.type w base v n xs hown ao m c news hl hnone hnews h1 hlen hb hbase
  unfold Oper.wp execOp
  simp only [ho, resolve, invoke, builtin, Sem.run_bind, Sem.run_pure, Result.andThen_ok, List.map_toArray, List.map_cons, List.map_nil, hs, hx, hr]
  obtain ⟨a', c', rfl⟩ := own_slice h2
  exact hK _ _ (h a' c' w' h2 h3 h4 h5)

theorem step_app4 {P : Program} {t e : TypeId} {z : Value} {size bytes : Nat} (S : SliceT P t e z size bytes) (w : World) {ops : Array Oper} {o : Oper} {a : Act} {K : Act → World → Prop} {Q : Exit → Act → World → Prop} {E : Prop}
    (hgd : o.guard = none) (s x : Operand) (ho : o.op = .call { callee := .builtin .append, args := #[s, x], argTypes := #[t, t] }) (base : Nat)
    (v : Value) (n : Nat) (xs : List Value) (hs : a.eval s = v) (hown : w.ownsRow base e size v n xs)
    (ao : Option Addr) (m c : Nat) (news : List Value) (hx : a.eval x = .slice ao m c) (hl : news.length = m * size) (hnone : ao = none → m = 0 ∧ c = 0)
    (hnews : ∀ ad, ao = some ad → ∀ j u, news[j]? = some u → w.cell? (ad.add j) = some u) (h1 : ∀ u ∈ news, u.oneCell' = true)
    (hlen : n + m ≤ 1099511627776) (hb : bytes ≤ 64) (hbase : base ≤ w.heap.size)
    (h : ∀ a' c' w', w'.ownsRow base e size (.slice a' (n + m) c') (n + m) (xs ++ news) → Fr v.ownBlock.toList w w' → (∀ g, (Value.slice a' (n + m) c').ownBlock = some g → v.ownBlock = some g ∨ w.heap.size ≤ g) →
      FrT [e] w w' → K (a.put o.dst (.slice a' (n + m) c')) w') :
    if Region.wanted o (yielded ops a.tmps) = true then Oper.wp P o a w K Q else E := by
  have hw : Region.wanted o (yielded ops a.tmps) = true := by simp [Region.wanted, hgd]
  rw [if_pos hw]
  obtain ⟨v', w', hr, h2, h3, h4, h5⟩ := run_app4 (P := P) S o.type w base v n xs hown ao m c news hl hnone hnews h1 hlen hb hbase
  unfold Oper.wp execOp
  simp only [ho, resolve, invoke, builtin, Sem.run_bind, Sem.run_pure, Result.andThen_ok, List.map_toArray, List.map_cons, List.map_nil, hs, hx, hr]
  obtain ⟨a', c', rfl⟩ := own_slice h2
  exact h a' c' w' h2 h3 h4 h5

/-! ### a row, shortened -/
theorem own_take {w : World} {base e sz : Nat} {a : Option Addr} {c n : Nat} {vs : List Value} (h : w.ownsRow base e sz (.slice a n c) n vs) (m : Nat) (hm : m ≤ n) : w.ownsRow base e sz (.slice a m c) m (vs.take (m * sz)) := by
  have hl := h.1
  have hms : m * sz ≤ n * sz := Nat.mul_le_mul_right _ hm
  refine ⟨by rw [List.length_take]; omega, ?_⟩
  rcases h.2 with ⟨hv, h0⟩ | ⟨g, cap, cur, hv, hb, hg, hnc, hcm, hcs, htake⟩
  · simp only [Value.slice.injEq] at hv
    obtain ⟨rfl, rfl, rfl⟩ := hv
    have : m = 0 := by omega
    subst this
    exact .inl ⟨rfl, rfl⟩
  · simp only [Value.slice.injEq] at hv
    obtain ⟨rfl, -, rfl⟩ := hv
    refine .inr ⟨g, _, cur, rfl, hb, hg, by omega, hcm, hcs, ?_⟩
    rw [← htake, List.take_take, Nat.min_eq_left hms]
end Go.Proofs.Ytahohmdfllgedaa

namespace Go.Proofs.Ytahohmdfllgedaa
open Go.RowKit

abbrev vi (n : Int) : Value := .int .i64 n
abbrev vis (l : List Int) : List Value := l.map vi
/-- A piece's bytes: as they came in, or made since. -/
def PB (W0 w : World) (v : Value) (l : List UInt8) : Prop := Sl W0 v (vbs l) ∨ w.ownsRow 0 5 1 v l.length (vbs l)
abbrev pcell (p : LPiece) (v : Value) : List Value := [vi p.kind, vi p.value, vi p.size, v, .bool p.stk]
def pcells (qs : List (LPiece × Value)) : List Value := qs.flatMap fun q => pcell q.1 q.2
/-- The types of the blocks that an evaluation turns. -/
abbrev TS : List Nat := [109, 2, 114]

inductive LocR (W0 w : World) : Value → Option LPiece → Prop
  | none : LocR W0 w (.pointer none) none
  | some (g : Nat) (bv : Value) (p : LPiece) : w.heap[g]? = some (.cells (pcell p bv).toArray 114 (0, 0)) → W0.heap.size ≤ g → PB W0 w bv p.bytes → LocR W0 w (.pointer (some ⟨g, 0, none⟩)) (some p)

abbrev stCells (x : LWorld) (rv mv kv pv lv : Value) (l b : Bool) : Array Value := #[rv, vi x.base, vi x.cfa, .int .u64 (x.at_ : Int), mv, kv, pv, lv, .bool l, .bool b]
structure StV (W0 : World) (x : LWorld) (rv mv : Value) (sb : Nat) (w : World) (s : LSt) (kv pv lv : Value) (qs : List (LPiece × Value)) : Prop where
  blk : w.heap[sb]? = some (.cells (stCells x rv mv kv pv lv s.left s.bad) 109 (0, 0))
  world : RWorld W0 rv mv x
  fr : Fr [] W0 w
  ge : W0.heap.size ≤ sb
  own : w.ownsRow W0.heap.size 2 1 kv s.stack.length (vis s.stack)
  pcs : w.ownsRow W0.heap.size 114 5 pv s.pieces.length (pcells qs)
  pq : qs.map (·.1) = s.pieces
  pb : ∀ q ∈ qs, PB W0 w q.2 q.1.bytes
  loc : LocR W0 w lv s.loc
def StR (W0 : World) (x : LWorld) (rv mv : Value) (sb : Nat) (w : World) (s : LSt) : Prop := ∃ kv pv lv qs, StV W0 x rv mv sb w s kv pv lv qs

/-- Behind a method: the state, and what else has turned. -/
def StP (W0 : World) (x : LWorld) (rv mv : Value) (sb : Nat) (w : World) (s : LSt) (w' : World) : Prop := StR W0 x rv mv sb w' s ∧ FrT TS w w'

section
variable {W0 w w' : World} {x : LWorld} {rv mv kv pv lv : Value} {sb : Nat} {s : LSt} {qs : List (LPiece × Value)}
theorem PB.fr {v : Value} {l : List UInt8} (h : PB W0 w v l) (f : FrT TS w w') : PB W0 w' v l := h.imp id (fun o => f.own o (by decide))
theorem PB.sl {v : Value} {l : List UInt8} (h : PB W0 w v l) (f : Fr [] W0 w) : Sl w v (vbs l) := by
  rcases h with h | h
  · exact h.fr f (by simp)
  · exact own_sl h
/-- Blocks of other types stay. -/
theorem LocR.fr {v : Value} {o : Option LPiece} (h : LocR W0 w v o) (f : FrT [109, 2] w w') : LocR W0 w' v o := by
  cases h with
  | none => exact .none
  | some g bv p h1 h2 h3 => exact .some g bv p (f.get h1 (by decide)) h2 (h3.fr (f.mono (by simp)))
theorem StV.cell (h : StV W0 x rv mv sb w s kv pv lv qs) (i : Nat) : w.cell? ⟨sb, i, none⟩ = (stCells x rv mv kv pv lv s.left s.bad)[i]? := blk_cell h.blk i
theorem StV.free (h : StV W0 x rv mv sb w s kv pv lv qs) (i : Nat) : w.frozen? ⟨sb, i, none⟩ = false := blk_free h.blk i
/-- Where something new was made, or turned in blocks of other types: the state is as it was. -/
theorem StV.call (h : StV W0 x rv mv sb w s kv pv lv qs) (f : Fr [] w w') : StV W0 x rv mv sb w' s kv pv lv qs :=
  ⟨f.get h.blk (by simp), h.world, h.fr.then f, h.ge, own_fr h.own f (by simp), own_fr h.pcs f (by simp), h.pq, fun q hq => (h.pb q hq).fr (.of0 f), h.loc.fr (.of0 f)⟩
theorem StR.call (h : StR W0 x rv mv sb w s) (f : Fr [] w w') : StR W0 x rv mv sb w' s := by
  obtain ⟨kv, pv, lv, qs, h⟩ := h; exact ⟨kv, pv, lv, qs, h.call f⟩
theorem StR.fr (h : StR W0 x rv mv sb w s) : Fr [] W0 w := by
  obtain ⟨kv, pv, lv, qs, h⟩ := h; exact h.fr
theorem StV.kv_ne (h : StV W0 x rv mv sb w s kv pv lv qs) : kv.ownBlock ≠ some sb := by
  intro e
  have h1 := own_btype h.own e
  rw [btype_of h.blk] at h1; cases h1
theorem StV.pv_ne (h : StV W0 x rv mv sb w s kv pv lv qs) : pv.ownBlock ≠ some sb := by
  intro e
  have h1 := own_btype h.pcs e
  rw [btype_of h.blk] at h1; cases h1
theorem frT_set (h : w.heap[sb]? = some (.cells (stCells x rv mv kv pv lv s.left s.bad) 109 (0, 0))) (i : Nat) (u : Value) : FrT [109, 2] w (w.setCell ⟨sb, i, none⟩ u) :=
  (FrT.refl _ _).setCell h (by simp) u
/-- A mark is set (left: 8, bad: 9). -/
theorem StV.markV (h : StV W0 x rv mv sb w s kv pv lv qs) (b : Bool) :
    StV W0 x rv mv sb (w.setCell ⟨sb, if b then 9 else 8, none⟩ (.bool true)) (if b then s.mkBad else s.mkLeft) kv pv lv qs ∧ FrT TS w (w.setCell ⟨sb, if b then 9 else 8, none⟩ (.bool true)) := by
  have f := frT_set h.blk (if b then 9 else 8) (.bool true)
  refine ⟨?_, f.mono (by simp)⟩
  have f0 : Fr [] W0 (w.setCell ⟨sb, if b then 9 else 8, none⟩ (.bool true)) := h.fr.setCell (.inr h.ge) _
  have o1 := own_fr h.own ((Fr.refl [sb] w).setCell (p := ⟨sb, if b then 9 else 8, none⟩) (.inl (by simp)) (.bool true)) (fun g hg => by simp; rintro rfl; exact h.kv_ne hg)
  have o2 := own_fr h.pcs ((Fr.refl [sb] w).setCell (p := ⟨sb, if b then 9 else 8, none⟩) (.inl (by simp)) (.bool true)) (fun g hg => by simp; rintro rfl; exact h.pv_ne hg)
  cases b
  · exact ⟨by simpa [LSt.mkLeft] using blk_set h.blk 8 (.bool true), h.world, f0, h.ge, o1, o2, h.pq, fun q hq => (h.pb q hq).fr (f.mono (by simp)), h.loc.fr f⟩
  · exact ⟨by simpa [LSt.mkBad] using blk_set h.blk 9 (.bool true), h.world, f0, h.ge, o1, o2, h.pq, fun q hq => (h.pb q hq).fr (f.mono (by simp)), h.loc.fr f⟩
theorem StV.mark (h : StV W0 x rv mv sb w s kv pv lv qs) (b : Bool) :
    StP W0 x rv mv sb w (if b then s.mkBad else s.mkLeft) (w.setCell ⟨sb, if b then 9 else 8, none⟩ (.bool true)) := ⟨⟨_, _, _, _, (h.markV b).1⟩, (h.markV b).2⟩
theorem StV.badV (h : StV W0 x rv mv sb w s kv pv lv qs) : StV W0 x rv mv sb (w.setCell ⟨sb, 9, none⟩ (.bool true)) s.mkBad kv pv lv qs ∧ FrT TS w (w.setCell ⟨sb, 9, none⟩ (.bool true)) := h.markV true
theorem StV.leftV (h : StV W0 x rv mv sb w s kv pv lv qs) : StV W0 x rv mv sb (w.setCell ⟨sb, 8, none⟩ (.bool true)) s.mkLeft kv pv lv qs ∧ FrT TS w (w.setCell ⟨sb, 8, none⟩ (.bool true)) := h.markV false
theorem StV.bad (h : StV W0 x rv mv sb w s kv pv lv qs) : StP W0 x rv mv sb w s.mkBad (w.setCell ⟨sb, 9, none⟩ (.bool true)) := h.mark true
theorem StV.left (h : StV W0 x rv mv sb w s kv pv lv qs) : StP W0 x rv mv sb w s.mkLeft (w.setCell ⟨sb, 8, none⟩ (.bool true)) := h.mark false
/-- The stack is another one. -/
theorem StV.stkV (h : StV W0 x rv mv sb w s kv pv lv qs) {w1 : World} (f0 : Fr [] W0 w1) (ft : FrT [2] w w1) {kv' : Value} {l' : List Int} {n' : Nat} (hn : n' = l'.length)
    (o : w1.ownsRow W0.heap.size 2 1 kv' n' (vis l')) : StV W0 x rv mv sb (w1.setCell ⟨sb, 5, none⟩ kv') { s with stack := l' } kv' pv lv qs ∧ FrT TS w (w1.setCell ⟨sb, 5, none⟩ kv') := by
  subst hn
  have hb1 := ft.get h.blk (by decide)
  have f := (FrT.refl [109, 2] w1).setCell (i := 5) hb1 (by simp) kv'
  have f2 := (ft.mono (T' := [109, 2]) (by simp)).trans f
  refine ⟨?_, f2.mono (by simp)⟩
  have hk : kv'.ownBlock ≠ some sb := by
    intro e
    have h1 := own_btype o e
    rw [btype_of hb1] at h1; cases h1
  have o1 := own_fr o ((Fr.refl [sb] w1).setCell (p := ⟨sb, 5, none⟩) (.inl (by simp)) kv') (fun g hg => by simp; rintro rfl; exact hk hg)
  have p1 := ft.own h.pcs (by decide)
  have p2 := own_fr p1 ((Fr.refl [sb] w1).setCell (p := ⟨sb, 5, none⟩) (.inl (by simp)) kv') (fun g hg => by simp; rintro rfl; exact h.pv_ne hg)
  exact ⟨by simpa using blk_set hb1 5 kv', h.world, f0.setCell (.inr h.ge) _, h.ge, o1, p2, h.pq, fun q hq => (h.pb q hq).fr (f2.mono (by simp)), h.loc.fr f2⟩
theorem StV.stk (h : StV W0 x rv mv sb w s kv pv lv qs) {w1 : World} (f0 : Fr [] W0 w1) (ft : FrT [2] w w1) {kv' : Value} {l' : List Int} {n' : Nat} (hn : n' = l'.length)
    (o : w1.ownsRow W0.heap.size 2 1 kv' n' (vis l')) : StP W0 x rv mv sb w { s with stack := l' } (w1.setCell ⟨sb, 5, none⟩ kv') :=
  ⟨⟨_, _, _, _, (h.stkV f0 ft hn o).1⟩, (h.stkV f0 ft hn o).2⟩
end
end Go.Proofs.Ytahohmdfllgedaa

namespace Go.Proofs.Ytahohmdfllgedaa
open Go.RowKit

theorem sliceI64 : SliceT Try.prog 106 2 (.int .i64 0) 1 8 := ⟨Try.underlying106, by kernel_rfl, rfl, by decide⟩
theorem own_vis {w : World} {base : Nat} {kv : Value} {l : List Int} (h : w.ownsRow base 2 1 kv l.length (vis l)) (hl : 0 < l.length) :
    ∃ g c, kv = .slice (some ⟨g, 0, none⟩) l.length c ∧ l.length ≤ c ∧ c ≤ maxLen ∧ ∀ i (hi : i < l.length), w.cell? ⟨g, i, none⟩ = some (vi l[i]) := by
  rcases h.2 with ⟨_, h0⟩ | ⟨g, cap, cur, rfl, hb, hg, hnc, hcm, hcs, htake⟩
  · omega
  · refine ⟨g, cap, rfl, hnc, hcm, fun i hi => ?_⟩
    have := h.cells (g := g) rfl i (vi l[i]) (by simp [hi])
    rwa [Addr.add_lit, Nat.zero_add] at this
theorem popS_nil {s : LSt} (h : s.stack = []) : popS s = (0, s.mkBad) := by simp [popS, h]
theorem popS_snoc {s : LSt} {l : List Int} {v : Int} (h : s.stack = l ++ [v]) : popS s = (v, { s with stack := l }) := by simp [popS, h]

/-- Behind pop: the state, of which but the stack nothing has turned. -/
def PopP (W0 : World) (x : LWorld) (rv mv : Value) (sb : Nat) (w : World) (s : LSt) (pv lv : Value) (qs : List (LPiece × Value)) (w' : World) : Prop := ∃ kv, StV W0 x rv mv sb w' s kv pv lv qs ∧ FrT TS w w'

set_option maxRecDepth 100000 in
set_option maxHeartbeats 1000000 in
theorem pop_v (W0 : World) (x : LWorld) (rv mv : Value) (sb : Nat) (w : World) (s : LSt) (kv pv lv : Value) (qs : List (LPiece × Value)) (hv : StV W0 x rv mv sb w s kv pv lv qs) :
    Calls Try.prog 70 #[.pointer (some ⟨sb, 0, none⟩)] w fun e w' => e = .returned (vi (popS s).1) ∧ PopP W0 x rv mv sb w (popS s).2 pv lv qs w' := by
  rcases List.eq_nil_or_concat s.stack with hs | ⟨l, v, hs⟩
  · rw [popS_nil hs]
    have ho := hv.own
    rw [hs] at ho
    obtain ⟨a, c, rfl⟩ := own_slice ho
    have c5 : w.cell? ⟨sb, 5, none⟩ = some (.slice a 0 c) := hv.cell 5
    have c9 : w.cell? ⟨sb, 9, none⟩ = some (.bool s.bad) := hv.cell 9
    have f9 : w.frozen? ⟨sb, 9, none⟩ = false := hv.free 9
    have Hv := Lib.hid hv
    clear hv hs ho
    go_enter Try.func70, Try.ntmps70
    go_wp2_with fail
    go_ret
    exact ⟨rfl, _, Hv.out.badV⟩
  · have hs' : s.stack = l ++ [v] := by simpa using hs
    rw [popS_snoc hs']
    have ho := hv.own
    obtain ⟨g, c, rfl, h1, h2, hc⟩ := own_vis ho (by rw [hs']; simp)
    have hlen : s.stack.length = l.length + 1 := by rw [hs']; simp
    have hcv : w.cell? ⟨g, l.length, none⟩ = some (vi v) := by
      rw [hc l.length (by omega)]; simp [hs']
    rw [hlen] at h1
    have c5 : w.cell? ⟨sb, 5, none⟩ = some (.slice (some ⟨g, 0, none⟩) (l.length + 1) c) := by have := hv.cell 5; rw [hlen] at this; exact this
    have f5 : w.frozen? ⟨sb, 5, none⟩ = false := hv.free 5
    unfold maxLen at h2
    have Hv := Lib.hid hv
    have Hs := Lib.hid hs'
    have Hlen := Lib.hid hlen
    clear hv hs hs' hlen ho hc
    go_enter Try.func70, Try.ntmps70
    go_wp2_with fail
    go_quiet (fail)
    go_wp2_with fail
    have e1 : IntKind.i64.wrap (l.length : Int) = (l.length : Int) := IntWalk.i64_in _ (by omega)
    have e2 : (0 : Int) ≤ (l.length : Int) := by omega
    have e3 : (l.length : Int) ≤ (c : Int) := by omega
    go_region_law (fail)
    clear e1 e2 e3
    all_goals
      go_wp2_with fail
      go_ret
      refine ⟨rfl, _, Hv.out.stkV (Hv.out.fr.drewN _) ((FrT.refl _ _).drewN _) rfl ?_⟩
      have := own_take Hv.out.own l.length (by rw [Hlen.out]; omega)
      rw [Hs.out] at this
      exact own_fr (bs := []) (by simpa using this) ((Fr.refl _ _).drewN _) (by simp)

theorem pop_any (W0 : World) (x : LWorld) (rv mv : Value) (sb : Nat) (w : World) (s : LSt) (h : StR W0 x rv mv sb w s) :
    Calls Try.prog 70 #[.pointer (some ⟨sb, 0, none⟩)] w fun e w' => e = .returned (vi (popS s).1) ∧ StP W0 x rv mv sb w (popS s).2 w' := by
  obtain ⟨kv, pv, lv, qs, hv⟩ := h
  exact (pop_v W0 x rv mv sb w s kv pv lv qs hv).mono fun e w' ⟨h1, kv', h2, h3⟩ => ⟨h1, ⟨kv', pv, lv, qs, h2⟩, h3⟩

set_option maxRecDepth 100000 in
set_option maxHeartbeats 1000000 in
theorem push_any (W0 : World) (x : LWorld) (rv mv : Value) (sb : Nat) (w : World) (s : LSt) (v : Int) (h : StR W0 x rv mv sb w s) (hl : s.stack.length ≤ 1000000) :
    Calls Try.prog 71 #[.pointer (some ⟨sb, 0, none⟩), vi v] w fun e w' => e = .returned (.tuple #[]) ∧ StP W0 x rv mv sb w (pushS v s) w' := by
  obtain ⟨kv, pv, lv, qs, hv⟩ := h
  have ho := hv.own
  obtain ⟨a, c, rfl⟩ := own_slice ho
  have c5 : w.cell? ⟨sb, 5, none⟩ = some (.slice a s.stack.length c) := hv.cell 5
  have hsb := lt_heap hv.blk
  have hW := hv.fr.size
  have Hv := Lib.hid hv
  have Ho : Hid ((w.alloc (.cells #[vi v] 2)).ownsRow W0.heap.size 2 1 (.slice a s.stack.length c) s.stack.length (vis s.stack)) := own_fr ho ((Fr.refl [] w).alloc _) (by simp)
  clear hv ho
  go_enter Try.func71, Try.ntmps71
  go_wp2_with (at_builtin; go_must (refine wpList_app4 sliceI64 _ rfl _ _ rfl W0.heap.size _ s.stack.length (vis s.stack) rfl Ho.out (some ⟨w.heap.size, 0, none⟩) 1 1 [vi v] rfl rfl (fun h => by cases h) (news_one rfl _ _) (by simp [Value.oneCell']) (by omega) (by decide) (by simp; omega) ?_))
  intro a' c' w1 ho1 hf1 hg1 ht1
  have Ho1 := Lib.hid ho1
  have Hf1 := Lib.hid hf1
  have Ht1 := Lib.hid ht1
  have hb1 : Hid (w1.heap[sb]? = some (.cells (stCells x rv mv (.slice a s.stack.length c) pv lv s.left s.bad) 109 (0, 0))) := ht1.get (blk_alloc Hv.out.blk) (by decide)
  have e5 : w1.cell? ⟨sb, 5, none⟩ = some (.slice a s.stack.length c) := blk_cell hb1.out 5
  have f5 : w1.frozen? ⟨sb, 5, none⟩ = false := blk_free hb1.out 5
  clear ho1 hf1 hg1 ht1 c5
  go_wp2

  go_end0
  refine ⟨rfl, Hv.out.stk (l' := s.stack ++ [v]) (n' := s.stack.length + 1) ?_ (((FrT.refl _ _).alloc _).trans Ht1.out) (by simp) ?_⟩
  · exact (Hv.out.fr.alloc _).app Ho.out (Nat.le_refl _) Hf1.out
  · simpa using Ho1.out
end Go.Proofs.Ytahohmdfllgedaa
