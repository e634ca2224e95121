/- Instructions of call frames xs bytes: plain Lean. -/
import Derived.Test.YtahohmdfllgedaaRight
import Derived.Test.YtahohmdfllgedaaLittle
import Derived.Test.YtahohmdfllgedaaSleb
namespace Go.Proofs.Ytahohmdfllgedaa
open Go.RowKit

/-- A number's 64 bits. -/
def u64of (x : Int) : Nat := (x % 18446744073709551616).toNat
theorem u64of_lt (x : Int) : u64of x < 18446744073709551616 := by unfold u64of; omega
theorem u64of_cast (x : Int) : x % 18446744073709551616 = ((u64of x : Nat) : Int) := by unfold u64of; omega

def opnd (data : List UInt8) (ch : UInt8) (x : Int) : List UInt8 :=
  if ch = 117 then uleb (u64of x) else if ch = 115 then sleb x else if ch = 97 then leL (u64of x) 8
  else if ch = 98 then uleb data.length ++ data else leL (u64of x) (ch.toNat - 48)
def opnds (data : List UInt8) : List UInt8 → List Int → List UInt8
  | ch :: s, x :: xs => opnd data ch x ++ opnds data s xs
  | _, _ => []
theorem opnds_take (data : List UInt8) : ∀ (s : List UInt8) (xs : List Int) (i : Nat) (h : i < s.length) (h' : i < xs.length), opnds data (s.take (i + 1)) xs = opnds data (s.take i) xs ++ opnd data s[i] xs[i]
  | ch :: s, x :: xs, 0, _, _ => by cases s <;> simp [opnds]
  | ch :: s, x :: xs, i + 1, h, h' => by
    simp only [List.take_succ_cons, opnds, List.getElem_cons_succ]
    rw [opnds_take data s xs i (by simpa using h) (by simpa using h'), List.append_assoc]
  | [], _, _, h, _ => by simp at h
  | _ :: _, [], _, _, h' => by simp at h'

def argsOf (c : LCall) : List Int := if c.op = 128 then [c.b] else [c.a, c.b]
def headB (c : LCall) : UInt8 := if c.op = 64 ∨ c.op = 192 ∨ c.op = 128 then UInt8.ofNat (c.op + c.a).toNat else UInt8.ofNat c.op.toNat
def callL (c : LCall) : List UInt8 := headB c :: opnds c.data (shape c.op).1 (argsOf c)
def callsL (l : List LCall) : List UInt8 := l.flatMap callL

theorem callsL_take (l : List LCall) (k : Nat) (hk : k < l.length) : callsL (l.take (k + 1)) = callsL (l.take k) ++ callL l[k] := by
  rw [callsL, List.take_succ_eq_append_getElem hk, List.flatMap_append]; simp [callsL]

/-- The signs that stand in a shape. -/
def sign (ch : UInt8) : Prop := ch = 117 ∨ ch = 115 ∨ ch = 97 ∨ ch = 98 ∨ ch = 49 ∨ ch = 50 ∨ ch = 52
theorem shape_none {op : Int} (h : (shape op).2 = false) : (shape op).1 = [] := by
  by_cases hop : op = 64 ∨ op = 192 ∨ op = 128 ∨ op = 0 ∨ op = 10 ∨ op = 11 ∨ op = 1 ∨ op = 2 ∨ op = 3 ∨ op = 4 ∨ op = 5 ∨ op = 9 ∨ op = 12 ∨ op = 20 ∨
    op = 6 ∨ op = 7 ∨ op = 8 ∨ op = 13 ∨ op = 14 ∨ op = 15 ∨ op = 16 ∨ op = 22 ∨ op = 17 ∨ op = 18 ∨ op = 21 ∨ op = 19
  · rcases hop with rfl | rfl | rfl | rfl | rfl | rfl | rfl | rfl | rfl | rfl | rfl | rfl | rfl | rfl | rfl | rfl | rfl | rfl | rfl | rfl | rfl | rfl | rfl | rfl | rfl | rfl
    all_goals (revert h; decide)
  · unfold shape; repeat (rw [if_neg (by omega)])
theorem shape_signs (op : Int) : ∀ ch ∈ (shape op).1, sign ch := by
  rcases op_cases op with h | h
  · rw [shape_none h]; simp
  · rcases h with rfl | rfl | rfl | rfl | rfl | rfl | rfl | rfl | rfl | rfl | rfl | rfl | rfl | rfl | rfl | rfl | rfl | rfl | rfl | rfl | rfl | rfl | rfl | rfl | rfl | rfl
    all_goals simp [shape, sign]
theorem shape_len (op : Int) : (shape op).1.length ≤ 2 := by
  rcases op_cases op with h | h
  · rw [shape_none h]; simp
  · rcases h with rfl | rfl | rfl | rfl | rfl | rfl | rfl | rfl | rfl | rfl | rfl | rfl | rfl | rfl | rfl | rfl | rfl | rfl | rfl | rfl | rfl | rfl | rfl | rfl | rfl | rfl
    all_goals decide
theorem shape128 : (shape 128).1 = [117] := by decide
theorem shape_args (c : LCall) : (shape c.op).1.length ≤ (argsOf c).length := by
  unfold argsOf; split
  · rename_i h; rw [h, shape128]; simp
  · exact shape_len _

theorem opnd_len (data : List UInt8) (hd : data.length ≤ 60) (ch : UInt8) (hs : sign ch) (x : Int) (hx : i64 x) : (opnd data ch x).length ≤ 70 := by
  have h1 := uleb_le10 (u64of_lt x)
  have h2 := sleb_le10 hx.1 hx.2
  have h3 := uleb_le10 (n := data.length) (by omega)
  rcases hs with rfl | rfl | rfl | rfl | rfl | rfl | rfl
  all_goals simp [opnd, leL_length]
  all_goals omega
theorem args_i64 (c : LCall) (h1 : i64 c.a) (h2 : i64 c.b) : ∀ x ∈ argsOf c, i64 x := by
  unfold argsOf; intro x hx; split at hx
  · simp at hx; subst hx; exact h2
  · simp at hx; rcases hx with rfl | rfl
    · exact h1
    · exact h2

theorem opnds_len (data : List UInt8) (hd : data.length ≤ 60) : ∀ (s : List UInt8) (xs : List Int), (∀ ch ∈ s, sign ch) → (∀ x ∈ xs, i64 x) → (opnds data s xs).length ≤ 70 * s.length
  | ch :: s, x :: xs, h, h' => by
    have h1 := opnd_len data hd ch (h ch (by simp)) x (h' x (by simp))
    have h2 := opnds_len data hd s xs (fun c hc => h c (by simp [hc])) (fun c hc => h' c (by simp [hc]))
    simp [opnds]; omega
  | [], _, _, _ => by simp [opnds]
  | _ :: _, [], _, _ => by simp [opnds]
theorem callL_len (c : LCall) (hr : callRightB c.op c.a c.b c.data.length = true) (h1 : i64 c.a) (h2 : i64 c.b) : (callL c).length ≤ 141 := by
  have hd : c.data.length ≤ 60 := by simp [callRightB] at hr; exact hr.1.2
  have h3 := opnds_len c.data hd (shape c.op).1 (argsOf c) (shape_signs _) (args_i64 c h1 h2)
  have h4 := shape_len c.op
  simp [callL]; omega

end Go.Proofs.Ytahohmdfllgedaa
