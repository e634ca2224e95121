/- dvframe.executeDwarfInstruction over a right instruction's bytes. Printed by gen_gey.py.
The machine runs: the buffer is filled anew; executeDwarfProgram, ExecuteUntilPC.
ExecuteUntilPC.
executeCIEInstructions: the machine is made, a common entry's instructions are run. -/
import Derived.Test.YtahohmdfllgedaaGreatFa8
import Derived.Test.YtahohmdfllgedaaGreatFa5
import Derived.Test.YtahohmdfllgedaaGreatFa7
set_option linter.unusedVariables false
set_option linter.unusedSimpArgs false
namespace Go.Proofs.YtahohmdfllgedaaGreat
open Go.RowKit

/-- An instruction of the package's machine. -/
def istep (code : Nat) (dal : Int) (x : LCall) (loc : Nat) (s : LSta) : Option (Nat × LSta) :=
  if movesB x.op then some (nextLoc code x loc, s) else (iCall dal x s).map fun t => (loc, t)
theorem u64of_nat {n : Nat} (h : n < 18446744073709551616) : u64of (n : Int) = n := by unfold u64of; omega
theorem mul_in {b d : Int} (h1 : -1073741824 < b) (h2 : b < 1073741824) (h3 : -64 ≤ d) (h4 : d ≤ 64) : IntKind.i64.wrap (b * d) = b * d := by
  have e : (b * d).natAbs ≤ 1073741824 * 64 := by rw [Int.natAbs_mul]; exact Nat.mul_le_mul (by omega) (by omega)
  exact IntWalk.i64_in _ (by omega)
theorem lt_mul {loc code a : Nat} (h1 : loc ≤ 4398046511104) (h2 : code ≤ 64) (h3 : a < 4294967296) : loc + code * a < 18446744073709551616 := by
  have := Nat.mul_le_mul h2 (Nat.le_of_lt h3); omega
theorem len_off {off n : Nat} {y : UInt8} {p : List UInt8} (h : n = p.length) : off + (y :: p).length = off + 1 + n := by rw [List.length_cons, h]; omega
section
variable {w0 w w' : World} {fb : Nat} {K : FK} {mb : Nat} {ev sv : Value} {qs : List SQ} {xv v : Value} {loc : Nat} {s : LSta} {l : List UInt8} {off : Nat} {rd : Bool}
theorem drop_tail {y : UInt8} {p rest : List UInt8} (hp : l.drop off = y :: p ++ rest) : l.drop (off + 1) = p ++ rest := by
  rw [← List.drop_drop, hp]; rfl
theorem len_pos {y : UInt8} {p rest : List UInt8} (hp : l.drop off = y :: p ++ rest) : 0 < l.length := by
  rcases Nat.eq_zero_or_pos l.length with h | h
  · rw [List.eq_nil_of_length_eq_zero h] at hp; simp at hp
  · exact h

theorem ey_7 (h : FX w0 w fb K mb ev sv qs xv v loc s l off rd) (a b : Int) (data : List UInt8) (hr : crB ⟨7, a, b, data⟩ = true) (hia : i64 a) (hib : i64 b) (rest : List UInt8) (hp : l.drop off = callL ⟨7, a, b, data⟩ ++ rest) (hd1 : -64 ≤ K.dal) (hd2 : K.dal ≤ 64) (hcd : K.code ≤ 64) (hloc : loc ≤ 4398046511104) (hks : s.2.length ≤ 1000) :
    Calls Tryz.prog 86 #[ptrX fb] w (XOut w0 fb K xv v l (off + (callL ⟨7, a, b, data⟩).length) (istep K.code K.dal ⟨7, a, b, data⟩ loc s)) := by
  simp [crB, callRightB, shape, rightB] at hr
  obtain ⟨na, rfl⟩ : ∃ na : Nat, a = (na : Int) := ⟨a.toNat, by omega⟩
  have hc : callL ⟨7, (na : Int), b, data⟩ = 7 :: (uleb na) := by simp [callL, headB, shape, argsOf, opnds, opnd, u64of_nat (show na < 18446744073709551616 by omega)]
  have hs : istep K.code K.dal ⟨7, (na : Int), b, data⟩ loc s = some (loc, (s.1.put (na : Int) ⟨0, 0, 0, []⟩, s.2)) := by simp [istep, movesB, iCall, nextLoc]
  rw [hc] at hp ⊢
  rw [hs]
  refine exec_core h 7 _ (by simpa using hp) (by decide) 108 _ _ (look_lo 7 (by decide) _ fnl_7) (fun _ _ => by kernel_rfl) (fun _ => by kernel_rfl) _ _ (fun w' rd' h' => ?_)
  have hp' := drop_tail (p := uleb na) hp
  refine (x_undefined_any h' na rest hp' (by omega)).mono ?_
  rintro e w'' hx
  have e1 : off + (7 :: (uleb na) : List UInt8).length = off + 1 + (uleb na).length := by simp [leL_length]; try omega
  rw [e1]
  exact hx

theorem ey_8 (h : FX w0 w fb K mb ev sv qs xv v loc s l off rd) (a b : Int) (data : List UInt8) (hr : crB ⟨8, a, b, data⟩ = true) (hia : i64 a) (hib : i64 b) (rest : List UInt8) (hp : l.drop off = callL ⟨8, a, b, data⟩ ++ rest) (hd1 : -64 ≤ K.dal) (hd2 : K.dal ≤ 64) (hcd : K.code ≤ 64) (hloc : loc ≤ 4398046511104) (hks : s.2.length ≤ 1000) :
    Calls Tryz.prog 86 #[ptrX fb] w (XOut w0 fb K xv v l (off + (callL ⟨8, a, b, data⟩).length) (istep K.code K.dal ⟨8, a, b, data⟩ loc s)) := by
  simp [crB, callRightB, shape, rightB] at hr
  obtain ⟨na, rfl⟩ : ∃ na : Nat, a = (na : Int) := ⟨a.toNat, by omega⟩
  have hc : callL ⟨8, (na : Int), b, data⟩ = 8 :: (uleb na) := by simp [callL, headB, shape, argsOf, opnds, opnd, u64of_nat (show na < 18446744073709551616 by omega)]
  have hs : istep K.code K.dal ⟨8, (na : Int), b, data⟩ loc s = some (loc, (s.1.put (na : Int) ⟨1, 0, 0, []⟩, s.2)) := by simp [istep, movesB, iCall, nextLoc]
  rw [hc] at hp ⊢
  rw [hs]
  refine exec_core h 8 _ (by simpa using hp) (by decide) 109 _ _ (look_lo 8 (by decide) _ fnl_8) (fun _ _ => by kernel_rfl) (fun _ => by kernel_rfl) _ _ (fun w' rd' h' => ?_)
  have hp' := drop_tail (p := uleb na) hp
  refine (x_samevalue_any h' na rest hp' (by omega)).mono ?_
  rintro e w'' hx
  have e1 : off + (8 :: (uleb na) : List UInt8).length = off + 1 + (uleb na).length := by simp [leL_length]; try omega
  rw [e1]
  exact hx

theorem ey_6 (h : FX w0 w fb K mb ev sv qs xv v loc s l off rd) (a b : Int) (data : List UInt8) (hr : crB ⟨6, a, b, data⟩ = true) (hia : i64 a) (hib : i64 b) (rest : List UInt8) (hp : l.drop off = callL ⟨6, a, b, data⟩ ++ rest) (hd1 : -64 ≤ K.dal) (hd2 : K.dal ≤ 64) (hcd : K.code ≤ 64) (hloc : loc ≤ 4398046511104) (hks : s.2.length ≤ 1000) :
    Calls Tryz.prog 86 #[ptrX fb] w (XOut w0 fb K xv v l (off + (callL ⟨6, a, b, data⟩).length) (istep K.code K.dal ⟨6, a, b, data⟩ loc s)) := by
  simp [crB, callRightB, shape, rightB] at hr
  obtain ⟨na, rfl⟩ : ∃ na : Nat, a = (na : Int) := ⟨a.toNat, by omega⟩
  have hc : callL ⟨6, (na : Int), b, data⟩ = 6 :: (uleb na) := by simp [callL, headB, shape, argsOf, opnds, opnd, u64of_nat (show na < 18446744073709551616 by omega)]
  have hs : istep K.code K.dal ⟨6, (na : Int), b, data⟩ loc s = some (loc, (s.1.put (na : Int) ⟨0, 0, 0, []⟩, s.2)) := by simp [istep, movesB, iCall, nextLoc]
  rw [hc] at hp ⊢
  rw [hs]
  refine exec_core h 6 _ (by simpa using hp) (by decide) 107 _ _ (look_lo 6 (by decide) _ fnl_6) (fun _ _ => by kernel_rfl) (fun _ => by kernel_rfl) _ _ (fun w' rd' h' => ?_)
  have hp' := drop_tail (p := uleb na) hp
  refine (x_restoreextended_any h' na rest hp' (by omega)).mono ?_
  rintro e w'' hx
  have e1 : off + (6 :: (uleb na) : List UInt8).length = off + 1 + (uleb na).length := by simp [leL_length]; try omega
  rw [e1]
  exact hx

theorem ey_9 (h : FX w0 w fb K mb ev sv qs xv v loc s l off rd) (a b : Int) (data : List UInt8) (hr : crB ⟨9, a, b, data⟩ = true) (hia : i64 a) (hib : i64 b) (rest : List UInt8) (hp : l.drop off = callL ⟨9, a, b, data⟩ ++ rest) (hd1 : -64 ≤ K.dal) (hd2 : K.dal ≤ 64) (hcd : K.code ≤ 64) (hloc : loc ≤ 4398046511104) (hks : s.2.length ≤ 1000) :
    Calls Tryz.prog 86 #[ptrX fb] w (XOut w0 fb K xv v l (off + (callL ⟨9, a, b, data⟩).length) (istep K.code K.dal ⟨9, a, b, data⟩ loc s)) := by
  simp [crB, callRightB, shape, rightB] at hr
  obtain ⟨na, rfl⟩ : ∃ na : Nat, a = (na : Int) := ⟨a.toNat, by omega⟩
  obtain ⟨nb, rfl⟩ : ∃ nb : Nat, b = (nb : Int) := ⟨b.toNat, by omega⟩
  have hc : callL ⟨9, (na : Int), (nb : Int), data⟩ = 9 :: (uleb na ++ uleb nb) := by simp [callL, headB, shape, argsOf, opnds, opnd, u64of_nat (show na < 18446744073709551616 by omega), u64of_nat (show nb < 18446744073709551616 by omega)]
  have hs : istep K.code K.dal ⟨9, (na : Int), (nb : Int), data⟩ loc s = some (loc, (s.1.put (na : Int) ⟨4, (nb : Int), 0, []⟩, s.2)) := by simp [istep, movesB, iCall, nextLoc]
  rw [hc] at hp ⊢
  rw [hs]
  refine exec_core h 9 _ (by simpa using hp) (by decide) 110 _ _ (look_lo 9 (by decide) _ fnl_9) (fun _ _ => by kernel_rfl) (fun _ => by kernel_rfl) _ _ (fun w' rd' h' => ?_)
  have hp' := drop_tail (p := uleb na ++ uleb nb) hp
  refine (x_register_any h' na nb rest (by simpa using hp') (by omega) (by omega)).mono ?_
  rintro e w'' hx
  have e1 : off + (9 :: (uleb na ++ uleb nb) : List UInt8).length = off + 1 + (uleb na).length + (uleb nb).length := by simp [leL_length]; try omega
  rw [e1]
  exact hx

theorem ey_5 (h : FX w0 w fb K mb ev sv qs xv v loc s l off rd) (a b : Int) (data : List UInt8) (hr : crB ⟨5, a, b, data⟩ = true) (hia : i64 a) (hib : i64 b) (rest : List UInt8) (hp : l.drop off = callL ⟨5, a, b, data⟩ ++ rest) (hd1 : -64 ≤ K.dal) (hd2 : K.dal ≤ 64) (hcd : K.code ≤ 64) (hloc : loc ≤ 4398046511104) (hks : s.2.length ≤ 1000) :
    Calls Tryz.prog 86 #[ptrX fb] w (XOut w0 fb K xv v l (off + (callL ⟨5, a, b, data⟩).length) (istep K.code K.dal ⟨5, a, b, data⟩ loc s)) := by
  simp [crB, callRightB, shape, rightB] at hr
  obtain ⟨na, rfl⟩ : ∃ na : Nat, a = (na : Int) := ⟨a.toNat, by omega⟩
  obtain ⟨nb, rfl⟩ : ∃ nb : Nat, b = (nb : Int) := ⟨b.toNat, by omega⟩
  have hc : callL ⟨5, (na : Int), (nb : Int), data⟩ = 5 :: (uleb na ++ uleb nb) := by simp [callL, headB, shape, argsOf, opnds, opnd, u64of_nat (show na < 18446744073709551616 by omega), u64of_nat (show nb < 18446744073709551616 by omega)]
  have hs : istep K.code K.dal ⟨5, (na : Int), (nb : Int), data⟩ loc s = some (loc, (s.1.put (na : Int) ⟨2, 0, (nb : Int) * K.dal, []⟩, s.2)) := by simp [istep, movesB, iCall, nextLoc]
  rw [hc] at hp ⊢
  rw [hs]
  refine exec_core h 5 _ (by simpa using hp) (by decide) 106 _ _ (look_lo 5 (by decide) _ fnl_5) (fun _ _ => by kernel_rfl) (fun _ => by kernel_rfl) _ _ (fun w' rd' h' => ?_)
  have hp' := drop_tail (p := uleb na ++ uleb nb) hp
  refine (x_offsetextended_any h' na nb rest (by simpa using hp') (by omega) (by omega) (mul_in (by omega) (by omega) hd1 hd2)).mono ?_
  rintro e w'' hx
  have e1 : off + (5 :: (uleb na ++ uleb nb) : List UInt8).length = off + 1 + (uleb na).length + (uleb nb).length := by simp [leL_length]; try omega
  rw [e1]
  exact hx

theorem ey_17 (h : FX w0 w fb K mb ev sv qs xv v loc s l off rd) (a b : Int) (data : List UInt8) (hr : crB ⟨17, a, b, data⟩ = true) (hia : i64 a) (hib : i64 b) (rest : List UInt8) (hp : l.drop off = callL ⟨17, a, b, data⟩ ++ rest) (hd1 : -64 ≤ K.dal) (hd2 : K.dal ≤ 64) (hcd : K.code ≤ 64) (hloc : loc ≤ 4398046511104) (hks : s.2.length ≤ 1000) :
    Calls Tryz.prog 86 #[ptrX fb] w (XOut w0 fb K xv v l (off + (callL ⟨17, a, b, data⟩).length) (istep K.code K.dal ⟨17, a, b, data⟩ loc s)) := by
  simp [crB, callRightB, shape, rightB] at hr
  obtain ⟨na, rfl⟩ : ∃ na : Nat, a = (na : Int) := ⟨a.toNat, by omega⟩
  have hc : callL ⟨17, (na : Int), b, data⟩ = 17 :: (uleb na ++ sleb b) := by simp [callL, headB, shape, argsOf, opnds, opnd, u64of_nat (show na < 18446744073709551616 by omega)]
  have hs : istep K.code K.dal ⟨17, (na : Int), b, data⟩ loc s = some (loc, (s.1.put (na : Int) ⟨2, 0, b * K.dal, []⟩, s.2)) := by simp [istep, movesB, iCall, nextLoc]
  rw [hc] at hp ⊢
  rw [hs]
  refine exec_core h 17 _ (by simpa using hp) (by decide) 118 _ _ (look_lo 17 (by decide) _ fnl_17) (fun _ _ => by kernel_rfl) (fun _ => by kernel_rfl) _ _ (fun w' rd' h' => ?_)
  have hp' := drop_tail (p := uleb na ++ sleb b) hp
  refine (x_offsetextendedsf_any h' na b rest (by simpa using hp') (by omega) (by omega) (by omega) (mul_in (by omega) (by omega) hd1 hd2)).mono ?_
  rintro e w'' hx
  have e1 : off + (17 :: (uleb na ++ sleb b) : List UInt8).length = off + 1 + (uleb na).length + (sleb b).length := by simp [leL_length]; try omega
  rw [e1]
  exact hx

theorem ey_21 (h : FX w0 w fb K mb ev sv qs xv v loc s l off rd) (a b : Int) (data : List UInt8) (hr : crB ⟨21, a, b, data⟩ = true) (hia : i64 a) (hib : i64 b) (rest : List UInt8) (hp : l.drop off = callL ⟨21, a, b, data⟩ ++ rest) (hd1 : -64 ≤ K.dal) (hd2 : K.dal ≤ 64) (hcd : K.code ≤ 64) (hloc : loc ≤ 4398046511104) (hks : s.2.length ≤ 1000) :
    Calls Tryz.prog 86 #[ptrX fb] w (XOut w0 fb K xv v l (off + (callL ⟨21, a, b, data⟩).length) (istep K.code K.dal ⟨21, a, b, data⟩ loc s)) := by
  simp [crB, callRightB, shape, rightB] at hr
  obtain ⟨na, rfl⟩ : ∃ na : Nat, a = (na : Int) := ⟨a.toNat, by omega⟩
  have hc : callL ⟨21, (na : Int), b, data⟩ = 21 :: (uleb na ++ sleb b) := by simp [callL, headB, shape, argsOf, opnds, opnd, u64of_nat (show na < 18446744073709551616 by omega)]
  have hs : istep K.code K.dal ⟨21, (na : Int), b, data⟩ loc s = some (loc, (s.1.put (na : Int) ⟨3, 0, b * K.dal, []⟩, s.2)) := by simp [istep, movesB, iCall, nextLoc]
  rw [hc] at hp ⊢
  rw [hs]
  refine exec_core h 21 _ (by simpa using hp) (by decide) 122 _ _ (look_lo 21 (by decide) _ fnl_21) (fun _ _ => by kernel_rfl) (fun _ => by kernel_rfl) _ _ (fun w' rd' h' => ?_)
  have hp' := drop_tail (p := uleb na ++ sleb b) hp
  refine (x_valoffsetsf_any h' na b rest (by simpa using hp') (by omega) (by omega) (by omega) (mul_in (by omega) (by omega) hd1 hd2)).mono ?_
  rintro e w'' hx
  have e1 : off + (21 :: (uleb na ++ sleb b) : List UInt8).length = off + 1 + (uleb na).length + (sleb b).length := by simp [leL_length]; try omega
  rw [e1]
  exact hx

theorem ey_12 (h : FX w0 w fb K mb ev sv qs xv v loc s l off rd) (a b : Int) (data : List UInt8) (hr : crB ⟨12, a, b, data⟩ = true) (hia : i64 a) (hib : i64 b) (rest : List UInt8) (hp : l.drop off = callL ⟨12, a, b, data⟩ ++ rest) (hd1 : -64 ≤ K.dal) (hd2 : K.dal ≤ 64) (hcd : K.code ≤ 64) (hloc : loc ≤ 4398046511104) (hks : s.2.length ≤ 1000) :
    Calls Tryz.prog 86 #[ptrX fb] w (XOut w0 fb K xv v l (off + (callL ⟨12, a, b, data⟩).length) (istep K.code K.dal ⟨12, a, b, data⟩ loc s)) := by
  simp [crB, callRightB, shape, rightB] at hr
  obtain ⟨na, rfl⟩ : ∃ na : Nat, a = (na : Int) := ⟨a.toNat, by omega⟩
  obtain ⟨nb, rfl⟩ : ∃ nb : Nat, b = (nb : Int) := ⟨b.toNat, by omega⟩
  have hc : callL ⟨12, (na : Int), (nb : Int), data⟩ = 12 :: (uleb na ++ uleb nb) := by simp [callL, headB, shape, argsOf, opnds, opnd, u64of_nat (show na < 18446744073709551616 by omega), u64of_nat (show nb < 18446744073709551616 by omega)]
  have hs : istep K.code K.dal ⟨12, (na : Int), (nb : Int), data⟩ loc s = some (loc, (s.1.setCfa ⟨8, (na : Int), (nb : Int), s.1.cfa.expr⟩, s.2)) := by simp [istep, movesB, iCall, nextLoc]
  rw [hc] at hp ⊢
  rw [hs]
  refine exec_core h 12 _ (by simpa using hp) (by decide) 113 _ _ (look_lo 12 (by decide) _ fnl_12) (fun _ _ => by kernel_rfl) (fun _ => by kernel_rfl) _ _ (fun w' rd' h' => ?_)
  have hp' := drop_tail (p := uleb na ++ uleb nb) hp
  refine (x_defcfa_any h' na nb rest (by simpa using hp') (by omega) (by omega)).mono ?_
  rintro e w'' hx
  have e1 : off + (12 :: (uleb na ++ uleb nb) : List UInt8).length = off + 1 + (uleb na).length + (uleb nb).length := by simp [leL_length]; try omega
  rw [e1]
  exact hx

theorem ey_18 (h : FX w0 w fb K mb ev sv qs xv v loc s l off rd) (a b : Int) (data : List UInt8) (hr : crB ⟨18, a, b, data⟩ = true) (hia : i64 a) (hib : i64 b) (rest : List UInt8) (hp : l.drop off = callL ⟨18, a, b, data⟩ ++ rest) (hd1 : -64 ≤ K.dal) (hd2 : K.dal ≤ 64) (hcd : K.code ≤ 64) (hloc : loc ≤ 4398046511104) (hks : s.2.length ≤ 1000) :
    Calls Tryz.prog 86 #[ptrX fb] w (XOut w0 fb K xv v l (off + (callL ⟨18, a, b, data⟩).length) (istep K.code K.dal ⟨18, a, b, data⟩ loc s)) := by
  simp [crB, callRightB, shape, rightB] at hr
  obtain ⟨na, rfl⟩ : ∃ na : Nat, a = (na : Int) := ⟨a.toNat, by omega⟩
  have hc : callL ⟨18, (na : Int), b, data⟩ = 18 :: (uleb na ++ sleb b) := by simp [callL, headB, shape, argsOf, opnds, opnd, u64of_nat (show na < 18446744073709551616 by omega)]
  have hs : istep K.code K.dal ⟨18, (na : Int), b, data⟩ loc s = some (loc, (s.1.setCfa ⟨8, (na : Int), b * K.dal, s.1.cfa.expr⟩, s.2)) := by simp [istep, movesB, iCall, nextLoc]
  rw [hc] at hp ⊢
  rw [hs]
  refine exec_core h 18 _ (by simpa using hp) (by decide) 119 _ _ (look_lo 18 (by decide) _ fnl_18) (fun _ _ => by kernel_rfl) (fun _ => by kernel_rfl) _ _ (fun w' rd' h' => ?_)
  have hp' := drop_tail (p := uleb na ++ sleb b) hp
  refine (x_defcfasf_any h' na b rest (by simpa using hp') (by omega) (by omega) (by omega) (mul_in (by omega) (by omega) hd1 hd2)).mono ?_
  rintro e w'' hx
  have e1 : off + (18 :: (uleb na ++ sleb b) : List UInt8).length = off + 1 + (uleb na).length + (sleb b).length := by simp [leL_length]; try omega
  rw [e1]
  exact hx

theorem ey_13 (h : FX w0 w fb K mb ev sv qs xv v loc s l off rd) (a b : Int) (data : List UInt8) (hr : crB ⟨13, a, b, data⟩ = true) (hia : i64 a) (hib : i64 b) (rest : List UInt8) (hp : l.drop off = callL ⟨13, a, b, data⟩ ++ rest) (hd1 : -64 ≤ K.dal) (hd2 : K.dal ≤ 64) (hcd : K.code ≤ 64) (hloc : loc ≤ 4398046511104) (hks : s.2.length ≤ 1000) :
    Calls Tryz.prog 86 #[ptrX fb] w (XOut w0 fb K xv v l (off + (callL ⟨13, a, b, data⟩).length) (istep K.code K.dal ⟨13, a, b, data⟩ loc s)) := by
  simp [crB, callRightB, shape, rightB] at hr
  obtain ⟨na, rfl⟩ : ∃ na : Nat, a = (na : Int) := ⟨a.toNat, by omega⟩
  have hc : callL ⟨13, (na : Int), b, data⟩ = 13 :: (uleb na) := by simp [callL, headB, shape, argsOf, opnds, opnd, u64of_nat (show na < 18446744073709551616 by omega)]
  have hs : istep K.code K.dal ⟨13, (na : Int), b, data⟩ loc s = some (loc, (s.1.setCfa { s.1.cfa with reg := (na : Int) }, s.2)) := by simp [istep, movesB, iCall, nextLoc]
  rw [hc] at hp ⊢
  rw [hs]
  refine exec_core h 13 _ (by simpa using hp) (by decide) 114 _ _ (look_lo 13 (by decide) _ fnl_13) (fun _ _ => by kernel_rfl) (fun _ => by kernel_rfl) _ _ (fun w' rd' h' => ?_)
  have hp' := drop_tail (p := uleb na) hp
  refine (x_defcfaregister_any h' na rest hp' (by omega)).mono ?_
  rintro e w'' hx
  have e1 : off + (13 :: (uleb na) : List UInt8).length = off + 1 + (uleb na).length := by simp [leL_length]; try omega
  rw [e1]
  exact hx

theorem ey_14 (h : FX w0 w fb K mb ev sv qs xv v loc s l off rd) (a b : Int) (data : List UInt8) (hr : crB ⟨14, a, b, data⟩ = true) (hia : i64 a) (hib : i64 b) (rest : List UInt8) (hp : l.drop off = callL ⟨14, a, b, data⟩ ++ rest) (hd1 : -64 ≤ K.dal) (hd2 : K.dal ≤ 64) (hcd : K.code ≤ 64) (hloc : loc ≤ 4398046511104) (hks : s.2.length ≤ 1000) :
    Calls Tryz.prog 86 #[ptrX fb] w (XOut w0 fb K xv v l (off + (callL ⟨14, a, b, data⟩).length) (istep K.code K.dal ⟨14, a, b, data⟩ loc s)) := by
  simp [crB, callRightB, shape, rightB] at hr
  obtain ⟨na, rfl⟩ : ∃ na : Nat, a = (na : Int) := ⟨a.toNat, by omega⟩
  have hc : callL ⟨14, (na : Int), b, data⟩ = 14 :: (uleb na) := by simp [callL, headB, shape, argsOf, opnds, opnd, u64of_nat (show na < 18446744073709551616 by omega)]
  have hs : istep K.code K.dal ⟨14, (na : Int), b, data⟩ loc s = some (loc, (s.1.setCfa { s.1.cfa with n := (na : Int) }, s.2)) := by simp [istep, movesB, iCall, nextLoc]
  rw [hc] at hp ⊢
  rw [hs]
  refine exec_core h 14 _ (by simpa using hp) (by decide) 115 _ _ (look_lo 14 (by decide) _ fnl_14) (fun _ _ => by kernel_rfl) (fun _ => by kernel_rfl) _ _ (fun w' rd' h' => ?_)
  have hp' := drop_tail (p := uleb na) hp
  refine (x_defcfaoffset_any h' na rest hp' (by omega)).mono ?_
  rintro e w'' hx
  have e1 : off + (14 :: (uleb na) : List UInt8).length = off + 1 + (uleb na).length := by simp [leL_length]; try omega
  rw [e1]
  exact hx

theorem ey_19 (h : FX w0 w fb K mb ev sv qs xv v loc s l off rd) (a b : Int) (data : List UInt8) (hr : crB ⟨19, a, b, data⟩ = true) (hia : i64 a) (hib : i64 b) (rest : List UInt8) (hp : l.drop off = callL ⟨19, a, b, data⟩ ++ rest) (hd1 : -64 ≤ K.dal) (hd2 : K.dal ≤ 64) (hcd : K.code ≤ 64) (hloc : loc ≤ 4398046511104) (hks : s.2.length ≤ 1000) :
    Calls Tryz.prog 86 #[ptrX fb] w (XOut w0 fb K xv v l (off + (callL ⟨19, a, b, data⟩).length) (istep K.code K.dal ⟨19, a, b, data⟩ loc s)) := by
  simp [crB, callRightB, shape, rightB] at hr
  have hc : callL ⟨19, a, b, data⟩ = 19 :: (sleb a) := by simp [callL, headB, shape, argsOf, opnds, opnd]
  have hs : istep K.code K.dal ⟨19, a, b, data⟩ loc s = some (loc, (s.1.setCfa { s.1.cfa with n := a * K.dal }, s.2)) := by simp [istep, movesB, iCall, nextLoc]
  rw [hc] at hp ⊢
  rw [hs]
  refine exec_core h 19 _ (by simpa using hp) (by decide) 120 _ _ (look_lo 19 (by decide) _ fnl_19) (fun _ _ => by kernel_rfl) (fun _ => by kernel_rfl) _ _ (fun w' rd' h' => ?_)
  have hp' := drop_tail (p := sleb a) hp
  refine (x_defcfaoffsetsf_any h' a rest hp' (by omega) (by omega) (mul_in (by omega) (by omega) hd1 hd2)).mono ?_
  rintro e w'' hx
  have e1 : off + (19 :: (sleb a) : List UInt8).length = off + 1 + (sleb a).length := by simp [leL_length]; try omega
  rw [e1]
  exact hx

theorem ey_15 (h : FX w0 w fb K mb ev sv qs v v loc s l off rd) (a b : Int) (data : List UInt8) (hr : crB ⟨15, a, b, data⟩ = true) (hia : i64 a) (hib : i64 b) (rest : List UInt8) (hp : l.drop off = callL ⟨15, a, b, data⟩ ++ rest) (hd1 : -64 ≤ K.dal) (hd2 : K.dal ≤ 64) (hcd : K.code ≤ 64) (hloc : loc ≤ 4398046511104) (hks : s.2.length ≤ 1000) :
    Calls Tryz.prog 86 #[ptrX fb] w (XOut w0 fb K v v l (off + (callL ⟨15, a, b, data⟩).length) (istep K.code K.dal ⟨15, a, b, data⟩ loc s)) := by
  simp [crB, callRightB, shape, rightB] at hr
  have hc : callL ⟨15, a, b, data⟩ = 15 :: (uleb data.length ++ data) := by simp [callL, headB, shape, argsOf, opnds, opnd]
  have hs : istep K.code K.dal ⟨15, a, b, data⟩ loc s = some (loc, (s.1.setCfa { s.1.cfa with kind := 5, expr := data }, s.2)) := by simp [istep, movesB, iCall, nextLoc]
  rw [hc] at hp ⊢
  rw [hs]
  refine exec_core h 15 _ (by simpa using hp) (by decide) 116 _ _ (look_lo 15 (by decide) _ fnl_15) (fun _ _ => by kernel_rfl) (fun _ => by kernel_rfl) _ _ (fun w' rd' h' => ?_)
  have hp' := drop_tail (p := uleb data.length ++ data) hp
  refine (x_defcfaexpression_any h' data rest (by simpa using hp') (by omega) (len_pos hp)).mono ?_
  rintro e w'' hx
  have e1 : off + (15 :: (uleb data.length ++ data) : List UInt8).length = off + 1 + (uleb data.length).length + data.length := by simp [leL_length]; try omega
  rw [e1]
  exact hx

theorem ey_16 (h : FX w0 w fb K mb ev sv qs v v loc s l off rd) (a b : Int) (data : List UInt8) (hr : crB ⟨16, a, b, data⟩ = true) (hia : i64 a) (hib : i64 b) (rest : List UInt8) (hp : l.drop off = callL ⟨16, a, b, data⟩ ++ rest) (hd1 : -64 ≤ K.dal) (hd2 : K.dal ≤ 64) (hcd : K.code ≤ 64) (hloc : loc ≤ 4398046511104) (hks : s.2.length ≤ 1000) :
    Calls Tryz.prog 86 #[ptrX fb] w (XOut w0 fb K v v l (off + (callL ⟨16, a, b, data⟩).length) (istep K.code K.dal ⟨16, a, b, data⟩ loc s)) := by
  simp [crB, callRightB, shape, rightB] at hr
  obtain ⟨na, rfl⟩ : ∃ na : Nat, a = (na : Int) := ⟨a.toNat, by omega⟩
  have hc : callL ⟨16, (na : Int), b, data⟩ = 16 :: (uleb na ++ (uleb data.length ++ data)) := by simp [callL, headB, shape, argsOf, opnds, opnd, u64of_nat (show na < 18446744073709551616 by omega)]
  have hs : istep K.code K.dal ⟨16, (na : Int), b, data⟩ loc s = some (loc, (s.1.put (na : Int) ⟨5, 0, 0, data⟩, s.2)) := by simp [istep, movesB, iCall, nextLoc]
  rw [hc] at hp ⊢
  rw [hs]
  refine exec_core h 16 _ (by simpa using hp) (by decide) 117 _ _ (look_lo 16 (by decide) _ fnl_16) (fun _ _ => by kernel_rfl) (fun _ => by kernel_rfl) _ _ (fun w' rd' h' => ?_)
  have hp' := drop_tail (p := uleb na ++ (uleb data.length ++ data)) hp
  refine (x_expression_any h' na data rest (by simpa using hp') (by omega) (by omega) (len_pos hp)).mono ?_
  rintro e w'' hx
  have e1 : off + (16 :: (uleb na ++ (uleb data.length ++ data)) : List UInt8).length = off + 1 + (uleb na).length + (uleb data.length).length + data.length := by simp [leL_length]; try omega
  rw [e1]
  exact hx

theorem ey_22 (h : FX w0 w fb K mb ev sv qs v v loc s l off rd) (a b : Int) (data : List UInt8) (hr : crB ⟨22, a, b, data⟩ = true) (hia : i64 a) (hib : i64 b) (rest : List UInt8) (hp : l.drop off = callL ⟨22, a, b, data⟩ ++ rest) (hd1 : -64 ≤ K.dal) (hd2 : K.dal ≤ 64) (hcd : K.code ≤ 64) (hloc : loc ≤ 4398046511104) (hks : s.2.length ≤ 1000) :
    Calls Tryz.prog 86 #[ptrX fb] w (XOut w0 fb K v v l (off + (callL ⟨22, a, b, data⟩).length) (istep K.code K.dal ⟨22, a, b, data⟩ loc s)) := by
  simp [crB, callRightB, shape, rightB] at hr
  obtain ⟨na, rfl⟩ : ∃ na : Nat, a = (na : Int) := ⟨a.toNat, by omega⟩
  have hc : callL ⟨22, (na : Int), b, data⟩ = 22 :: (uleb na ++ (uleb data.length ++ data)) := by simp [callL, headB, shape, argsOf, opnds, opnd, u64of_nat (show na < 18446744073709551616 by omega)]
  have hs : istep K.code K.dal ⟨22, (na : Int), b, data⟩ loc s = some (loc, (s.1.put (na : Int) ⟨6, 0, 0, data⟩, s.2)) := by simp [istep, movesB, iCall, nextLoc]
  rw [hc] at hp ⊢
  rw [hs]
  refine exec_core h 22 _ (by simpa using hp) (by decide) 123 _ _ (look_lo 22 (by decide) _ fnl_22) (fun _ _ => by kernel_rfl) (fun _ => by kernel_rfl) _ _ (fun w' rd' h' => ?_)
  have hp' := drop_tail (p := uleb na ++ (uleb data.length ++ data)) hp
  refine (x_valexpression_any h' na data rest (by simpa using hp') (by omega) (by omega) (len_pos hp)).mono ?_
  rintro e w'' hx
  have e1 : off + (22 :: (uleb na ++ (uleb data.length ++ data)) : List UInt8).length = off + 1 + (uleb na).length + (uleb data.length).length + data.length := by simp [leL_length]; try omega
  rw [e1]
  exact hx

theorem ey_2 (h : FX w0 w fb K mb ev sv qs xv v loc s l off rd) (a b : Int) (data : List UInt8) (hr : crB ⟨2, a, b, data⟩ = true) (hia : i64 a) (hib : i64 b) (rest : List UInt8) (hp : l.drop off = callL ⟨2, a, b, data⟩ ++ rest) (hd1 : -64 ≤ K.dal) (hd2 : K.dal ≤ 64) (hcd : K.code ≤ 64) (hloc : loc ≤ 4398046511104) (hks : s.2.length ≤ 1000) :
    Calls Tryz.prog 86 #[ptrX fb] w (XOut w0 fb K xv v l (off + (callL ⟨2, a, b, data⟩).length) (istep K.code K.dal ⟨2, a, b, data⟩ loc s)) := by
  simp [crB, callRightB, shape, rightB] at hr
  obtain ⟨na, rfl⟩ : ∃ na : Nat, a = (na : Int) := ⟨a.toNat, by omega⟩
  have hc : callL ⟨2, (na : Int), b, data⟩ = 2 :: [UInt8.ofNat na] := by simp [callL, headB, shape, argsOf, opnds, opnd, u64of_nat (show na < 18446744073709551616 by omega), leL]; rw [Nat.mod_eq_of_lt (by omega)]
  have hs : istep K.code K.dal ⟨2, (na : Int), b, data⟩ loc s = some (loc + K.code * na, s) := by simp [istep, movesB, iCall, nextLoc]
  rw [hc] at hp ⊢
  rw [hs]
  refine exec_core h 2 _ (by simpa using hp) (by decide) 103 _ _ (look_lo 2 (by decide) _ fnl_2) (fun _ _ => by kernel_rfl) (fun _ => by kernel_rfl) _ _ (fun w' rd' h' => ?_)
  have hp' := drop_tail (p := [UInt8.ofNat na]) hp
  refine (x_advanceloc1_any h' (UInt8.ofNat na) na rest hp' (by rw [ofNat_toNat (by omega)]) (by omega) (lt_mul hloc hcd (by omega))).mono ?_
  rintro e w'' hx
  have e1 : off + (2 :: [UInt8.ofNat na] : List UInt8).length = off + 1 + 1 := by simp [leL_length]; try omega
  rw [e1]
  exact hx

theorem ey_3 (h : FX w0 w fb K mb ev sv qs xv v loc s l off rd) (a b : Int) (data : List UInt8) (hr : crB ⟨3, a, b, data⟩ = true) (hia : i64 a) (hib : i64 b) (rest : List UInt8) (hp : l.drop off = callL ⟨3, a, b, data⟩ ++ rest) (hord : K.ord = .iface 69 (.agg #[])) (hd1 : -64 ≤ K.dal) (hd2 : K.dal ≤ 64) (hcd : K.code ≤ 64) (hloc : loc ≤ 4398046511104) (hks : s.2.length ≤ 1000) :
    Calls Tryz.prog 86 #[ptrX fb] w (XOut w0 fb K xv v l (off + (callL ⟨3, a, b, data⟩).length) (istep K.code K.dal ⟨3, a, b, data⟩ loc s)) := by
  simp [crB, callRightB, shape, rightB] at hr
  obtain ⟨na, rfl⟩ : ∃ na : Nat, a = (na : Int) := ⟨a.toNat, by omega⟩
  have hc : callL ⟨3, (na : Int), b, data⟩ = 3 :: (leL na 2) := by simp [callL, headB, shape, argsOf, opnds, opnd, u64of_nat (show na < 18446744073709551616 by omega)]
  have hs : istep K.code K.dal ⟨3, (na : Int), b, data⟩ loc s = some (loc + K.code * na, s) := by simp [istep, movesB, iCall, nextLoc]
  rw [hc] at hp ⊢
  rw [hs]
  refine exec_core h 3 _ (by simpa using hp) (by decide) 104 _ _ (look_lo 3 (by decide) _ fnl_3) (fun _ _ => by kernel_rfl) (fun _ => by kernel_rfl) _ _ (fun w' rd' h' => ?_)
  have hp' := drop_tail (p := leL na 2) hp
  refine (x_advanceloc2_any h' na rest hp' (by omega) hord (lt_mul hloc hcd (by omega))).mono ?_
  rintro e w'' hx
  have e1 : off + (3 :: (leL na 2) : List UInt8).length = off + 1 + 2 := by simp [leL_length]; try omega
  rw [e1]
  exact hx

theorem ey_4 (h : FX w0 w fb K mb ev sv qs xv v loc s l off rd) (a b : Int) (data : List UInt8) (hr : crB ⟨4, a, b, data⟩ = true) (hia : i64 a) (hib : i64 b) (rest : List UInt8) (hp : l.drop off = callL ⟨4, a, b, data⟩ ++ rest) (hord : K.ord = .iface 69 (.agg #[])) (hd1 : -64 ≤ K.dal) (hd2 : K.dal ≤ 64) (hcd : K.code ≤ 64) (hloc : loc ≤ 4398046511104) (hks : s.2.length ≤ 1000) :
    Calls Tryz.prog 86 #[ptrX fb] w (XOut w0 fb K xv v l (off + (callL ⟨4, a, b, data⟩).length) (istep K.code K.dal ⟨4, a, b, data⟩ loc s)) := by
  simp [crB, callRightB, shape, rightB] at hr
  obtain ⟨na, rfl⟩ : ∃ na : Nat, a = (na : Int) := ⟨a.toNat, by omega⟩
  have hc : callL ⟨4, (na : Int), b, data⟩ = 4 :: (leL na 4) := by simp [callL, headB, shape, argsOf, opnds, opnd, u64of_nat (show na < 18446744073709551616 by omega)]
  have hs : istep K.code K.dal ⟨4, (na : Int), b, data⟩ loc s = some (loc + K.code * na, s) := by simp [istep, movesB, iCall, nextLoc]
  rw [hc] at hp ⊢
  rw [hs]
  refine exec_core h 4 _ (by simpa using hp) (by decide) 105 _ _ (look_lo 4 (by decide) _ fnl_4) (fun _ _ => by kernel_rfl) (fun _ => by kernel_rfl) _ _ (fun w' rd' h' => ?_)
  have hp' := drop_tail (p := leL na 4) hp
  refine (x_advanceloc4_any h' na rest hp' (by omega) hord (lt_mul hloc hcd (by omega))).mono ?_
  rintro e w'' hx
  have e1 : off + (4 :: (leL na 4) : List UInt8).length = off + 1 + 4 := by simp [leL_length]; try omega
  rw [e1]
  exact hx

theorem ey_1 (h : FX w0 w fb K mb ev sv qs xv v loc s l off rd) (a b : Int) (data : List UInt8) (hr : crB ⟨1, a, b, data⟩ = true) (hia : i64 a) (hib : i64 b) (rest : List UInt8) (hp : l.drop off = callL ⟨1, a, b, data⟩ ++ rest) (hord : K.ord = .iface 69 (.agg #[])) (hd1 : -64 ≤ K.dal) (hd2 : K.dal ≤ 64) (hcd : K.code ≤ 64) (hloc : loc ≤ 4398046511104) (hks : s.2.length ≤ 1000) :
    Calls Tryz.prog 86 #[ptrX fb] w (XOut w0 fb K xv v l (off + (callL ⟨1, a, b, data⟩).length) (istep K.code K.dal ⟨1, a, b, data⟩ loc s)) := by
  simp [crB, callRightB, shape, rightB] at hr
  have hc : callL ⟨1, a, b, data⟩ = 1 :: (leL (u64of a) 8) := by simp [callL, headB, shape, argsOf, opnds, opnd]
  have hs : istep K.code K.dal ⟨1, a, b, data⟩ loc s = some (u64of a, s) := by simp [istep, movesB, iCall, nextLoc]
  rw [hc] at hp ⊢
  rw [hs]
  refine exec_core h 1 _ (by simpa using hp) (by decide) 102 _ _ (look_lo 1 (by decide) _ fnl_1) (fun _ _ => by kernel_rfl) (fun _ => by kernel_rfl) _ _ (fun w' rd' h' => ?_)
  have hp' := drop_tail (p := leL (u64of a) 8) hp
  refine (x_setloc_any h' (u64of a) rest hp' (u64of_lt a) hord).mono ?_
  rintro e w'' hx
  have e1 : off + (1 :: (leL (u64of a) 8) : List UInt8).length = off + 1 + 8 := by simp [leL_length]; try omega
  rw [e1]
  exact hx

theorem ey_10 (h : FX w0 w fb K mb ev sv qs xv v loc s l off rd) (a b : Int) (data : List UInt8) (hr : crB ⟨10, a, b, data⟩ = true) (hia : i64 a) (hib : i64 b) (rest : List UInt8) (hp : l.drop off = callL ⟨10, a, b, data⟩ ++ rest) (hd1 : -64 ≤ K.dal) (hd2 : K.dal ≤ 64) (hcd : K.code ≤ 64) (hloc : loc ≤ 4398046511104) (hks : s.2.length ≤ 1000) :
    Calls Tryz.prog 86 #[ptrX fb] w (XOut w0 fb K xv v l (off + (callL ⟨10, a, b, data⟩).length) (istep K.code K.dal ⟨10, a, b, data⟩ loc s)) := by
  simp [crB, callRightB, shape, rightB] at hr
  have hc : callL ⟨10, a, b, data⟩ = [10] := by simp [callL, headB, shape, argsOf, opnds, opnd]
  have hs : istep K.code K.dal ⟨10, a, b, data⟩ loc s = some (loc, (s.1, s.2 ++ [s.1])) := by simp [istep, movesB, iCall, nextLoc]
  rw [hc] at hp ⊢
  rw [hs]
  refine exec_core h 10 _ (by simpa using hp) (by decide) 111 _ _ (look_lo 10 (by decide) _ fnl_10) (fun _ _ => by kernel_rfl) (fun _ => by kernel_rfl) _ _ (fun w' rd' h' => ?_)
  have hp' := drop_tail (p := []) hp
  refine (x_rememberstate_any h' hks).mono ?_
  rintro e w'' hx
  have e1 : off + ([10] : List UInt8).length = off + 1 := by simp [leL_length]; try omega
  rw [e1]
  exact hx

theorem ey_64 (h : FX w0 w fb K mb ev sv qs xv v loc s l off rd) (a b : Int) (data : List UInt8) (hr : crB ⟨64, a, b, data⟩ = true) (hia : i64 a) (hib : i64 b) (rest : List UInt8) (hp : l.drop off = callL ⟨64, a, b, data⟩ ++ rest) (hd1 : -64 ≤ K.dal) (hd2 : K.dal ≤ 64) (hcd : K.code ≤ 64) (hloc : loc ≤ 4398046511104) (hks : s.2.length ≤ 1000) :
    Calls Tryz.prog 86 #[ptrX fb] w (XOut w0 fb K xv v l (off + (callL ⟨64, a, b, data⟩).length) (istep K.code K.dal ⟨64, a, b, data⟩ loc s)) := by
  simp [crB, callRightB, shape, rightB] at hr
  obtain ⟨na, rfl⟩ : ∃ na : Nat, a = (na : Int) := ⟨a.toNat, by omega⟩
  have hc : callL ⟨64, (na : Int), b, data⟩ = [UInt8.ofNat (64 + na)] := by simp [callL, headB, shape, argsOf, opnds, opnd, show ((64 : Int) + (na : Int)).toNat = 64 + na by omega]
  have hs : istep K.code K.dal ⟨64, (na : Int), b, data⟩ loc s = some (loc + K.code * na, s) := by simp [istep, movesB, iCall, nextLoc]
  have hyn : (UInt8.ofNat (64 + na)).toNat = 64 + na := ofNat_toNat (by omega)
  rw [hc] at hp ⊢
  rw [hs]
  have h6 : bits .and .u8 (((UInt8.ofNat (64 + na)).toNat : Nat) : Int) 63 = (na : Int) := by
    rw [hyn]
    have : ∀ k : Fin 64, bits .and .u8 (((64 + k.val : Nat)) : Int) 63 = (k.val : Int) := by decide +kernel
    exact this ⟨na, by omega⟩
  refine exec_core h (UInt8.ofNat (64 + na)) _ (by simpa using hp) (by rw [hyn]; omega) 99 _ _ (look_64 (UInt8.ofNat (64 + na)) na (by omega) hyn) (fun _ _ => by kernel_rfl) (fun _ => by kernel_rfl) _ _ (fun w' rd' h' => ?_)
  refine (x_advanceloc_any h' (UInt8.ofNat (64 + na)) na rest (by simpa using hp) h6 (by omega) (lt_mul hloc hcd (by omega))).mono ?_
  rintro e w'' hx
  have e1 : off + ([UInt8.ofNat (64 + na)] : List UInt8).length = off + 1 := by simp [leL_length]; try omega
  rw [e1]
  exact hx

theorem ey_192 (h : FX w0 w fb K mb ev sv qs xv v loc s l off rd) (a b : Int) (data : List UInt8) (hr : crB ⟨192, a, b, data⟩ = true) (hia : i64 a) (hib : i64 b) (rest : List UInt8) (hp : l.drop off = callL ⟨192, a, b, data⟩ ++ rest) (hd1 : -64 ≤ K.dal) (hd2 : K.dal ≤ 64) (hcd : K.code ≤ 64) (hloc : loc ≤ 4398046511104) (hks : s.2.length ≤ 1000) :
    Calls Tryz.prog 86 #[ptrX fb] w (XOut w0 fb K xv v l (off + (callL ⟨192, a, b, data⟩).length) (istep K.code K.dal ⟨192, a, b, data⟩ loc s)) := by
  simp [crB, callRightB, shape, rightB] at hr
  obtain ⟨na, rfl⟩ : ∃ na : Nat, a = (na : Int) := ⟨a.toNat, by omega⟩
  have hc : callL ⟨192, (na : Int), b, data⟩ = [UInt8.ofNat (192 + na)] := by simp [callL, headB, shape, argsOf, opnds, opnd, show ((192 : Int) + (na : Int)).toNat = 192 + na by omega]
  have hs : istep K.code K.dal ⟨192, (na : Int), b, data⟩ loc s = some (loc, (s.1.put (na : Int) ⟨0, 0, 0, []⟩, s.2)) := by simp [istep, movesB, iCall, nextLoc]
  have hyn : (UInt8.ofNat (192 + na)).toNat = 192 + na := ofNat_toNat (by omega)
  rw [hc] at hp ⊢
  rw [hs]
  have h6 : bits .and .u8 (((UInt8.ofNat (192 + na)).toNat : Nat) : Int) 63 = (na : Int) := by
    rw [hyn]
    have : ∀ k : Fin 64, bits .and .u8 (((192 + k.val : Nat)) : Int) 63 = (k.val : Int) := by decide +kernel
    exact this ⟨na, by omega⟩
  refine exec_core h (UInt8.ofNat (192 + na)) _ (by simpa using hp) (by rw [hyn]; omega) 101 _ _ (look_192 (UInt8.ofNat (192 + na)) na (by omega) hyn) (fun _ _ => by kernel_rfl) (fun _ => by kernel_rfl) _ _ (fun w' rd' h' => ?_)
  refine (x_restore_any h' (UInt8.ofNat (192 + na)) na rest (by simpa using hp) h6 (by omega)).mono ?_
  rintro e w'' hx
  have e1 : off + ([UInt8.ofNat (192 + na)] : List UInt8).length = off + 1 := by simp [leL_length]; try omega
  rw [e1]
  exact hx

theorem ey_128 (h : FX w0 w fb K mb ev sv qs xv v loc s l off rd) (a b : Int) (data : List UInt8) (hr : crB ⟨128, a, b, data⟩ = true) (hia : i64 a) (hib : i64 b) (rest : List UInt8) (hp : l.drop off = callL ⟨128, a, b, data⟩ ++ rest) (hd1 : -64 ≤ K.dal) (hd2 : K.dal ≤ 64) (hcd : K.code ≤ 64) (hloc : loc ≤ 4398046511104) (hks : s.2.length ≤ 1000) :
    Calls Tryz.prog 86 #[ptrX fb] w (XOut w0 fb K xv v l (off + (callL ⟨128, a, b, data⟩).length) (istep K.code K.dal ⟨128, a, b, data⟩ loc s)) := by
  simp [crB, callRightB, shape, rightB] at hr
  obtain ⟨na, rfl⟩ : ∃ na : Nat, a = (na : Int) := ⟨a.toNat, by omega⟩
  obtain ⟨nb, rfl⟩ : ∃ nb : Nat, b = (nb : Int) := ⟨b.toNat, by omega⟩
  have hc : callL ⟨128, (na : Int), (nb : Int), data⟩ = UInt8.ofNat (128 + na) :: (uleb nb) := by simp [callL, headB, shape, argsOf, opnds, opnd, u64of_nat (show nb < 18446744073709551616 by omega), show ((128 : Int) + (na : Int)).toNat = 128 + na by omega]
  have hs : istep K.code K.dal ⟨128, (na : Int), (nb : Int), data⟩ loc s = some (loc, (s.1.put (na : Int) ⟨2, 0, (nb : Int) * K.dal, []⟩, s.2)) := by simp [istep, movesB, iCall, nextLoc]
  have hyn : (UInt8.ofNat (128 + na)).toNat = 128 + na := ofNat_toNat (by omega)
  rw [hc] at hp ⊢
  rw [hs]
  have h6 : bits .and .u8 (((UInt8.ofNat (128 + na)).toNat : Nat) : Int) 63 = (na : Int) := by
    rw [hyn]
    have : ∀ k : Fin 64, bits .and .u8 (((128 + k.val : Nat)) : Int) 63 = (k.val : Int) := by decide +kernel
    exact this ⟨na, by omega⟩
  refine exec_core h (UInt8.ofNat (128 + na)) _ (by simpa using hp) (by rw [hyn]; omega) 100 _ _ (look_128 (UInt8.ofNat (128 + na)) na (by omega) hyn) (fun _ _ => by kernel_rfl) (fun _ => by kernel_rfl) _ _ (fun w' rd' h' => ?_)
  refine (x_offset_any h' (UInt8.ofNat (128 + na)) na nb rest (by simpa using hp) h6 (by omega) (by omega) (mul_in (by omega) (by omega) hd1 hd2)).mono ?_
  rintro e w'' hx
  have e1 : off + (UInt8.ofNat (128 + na) :: (uleb nb) : List UInt8).length = off + 1 + (uleb nb).length := by simp [leL_length]; try omega
  rw [e1]
  exact hx

theorem ey_0 (h : FX w0 w fb K mb ev sv qs xv v loc s l off rd) (a b : Int) (data : List UInt8) (hr : crB ⟨0, a, b, data⟩ = true) (hia : i64 a) (hib : i64 b) (rest : List UInt8) (hp : l.drop off = callL ⟨0, a, b, data⟩ ++ rest) (hd1 : -64 ≤ K.dal) (hd2 : K.dal ≤ 64) (hcd : K.code ≤ 64) (hloc : loc ≤ 4398046511104) (hks : s.2.length ≤ 1000) :
    Calls Tryz.prog 86 #[ptrX fb] w (XOut w0 fb K xv v l (off + (callL ⟨0, a, b, data⟩).length) (istep K.code K.dal ⟨0, a, b, data⟩ loc s)) := by
  have hc : callL ⟨0, a, b, data⟩ = [0] := by simp [callL, headB, shape, opnds]
  have hs : istep K.code K.dal ⟨0, a, b, data⟩ loc s = some (loc, s) := by simp [istep, movesB, iCall]
  rw [hc] at hp ⊢
  rw [hs]
  exact exec_nop h rest (by simpa using hp)
theorem ey_11 (h : FX w0 w fb K mb ev sv qs xv v loc s l off rd) (a b : Int) (data : List UInt8) (hr : crB ⟨11, a, b, data⟩ = true) (hia : i64 a) (hib : i64 b) (rest : List UInt8) (hp : l.drop off = callL ⟨11, a, b, data⟩ ++ rest) (hd1 : -64 ≤ K.dal) (hd2 : K.dal ≤ 64) (hcd : K.code ≤ 64) (hloc : loc ≤ 4398046511104) (hks : s.2.length ≤ 1000) :
    Calls Tryz.prog 86 #[ptrX fb] w (XOut w0 fb K xv v l (off + (callL ⟨11, a, b, data⟩).length) (istep K.code K.dal ⟨11, a, b, data⟩ loc s)) := by
  have hc : callL ⟨11, a, b, data⟩ = [11] := by simp [callL, headB, shape, opnds]
  have hs : istep K.code K.dal ⟨11, a, b, data⟩ loc s = (popT s).map fun t => (loc, t) := by simp [istep, movesB, iCall]
  rw [hc] at hp ⊢
  rw [hs]
  refine exec_core h 11 _ (by simpa using hp) (by decide) 112 _ _ (look_lo 11 (by decide) _ fnl_11) (fun _ _ => by kernel_rfl) (fun _ => by kernel_rfl) _ _ (fun w' rd' h' => ?_)
  cases hu : s.2.getLast? with
  | none =>
    rw [show popT s = none by unfold popT; rw [hu]]
    exact x_restorestate_nil h' hu
  | some u =>
    rw [show popT s = some (u, s.2.dropLast) by unfold popT; rw [hu]]
    exact x_restorestate_some h' hks u hu
end

/-- Each right instruction. -/
theorem exec_any {w0 w : World} {fb : Nat} {K : FK} {mb : Nat} {ev sv : Value} {qs : List SQ} {xv v : Value} {loc : Nat} {s : LSta} {l : List UInt8} {off : Nat} {rd : Bool} (h : FX w0 w fb K mb ev sv qs xv v loc s l off rd) (x : LCall) (hr : crB x = true) (hia : i64 x.a) (hib : i64 x.b) (h20 : x.op ≠ 20) (hx : (x.op = 15 ∨ x.op = 16 ∨ x.op = 22) → xv = v)
    (rest : List UInt8) (hp : l.drop off = callL x ++ rest) (hord : movesB x.op = true → K.ord = .iface 69 (.agg #[])) (hd1 : -64 ≤ K.dal) (hd2 : K.dal ≤ 64) (hcd : K.code ≤ 64) (hloc : loc ≤ 4398046511104) (hks : s.2.length ≤ 1000) :
    Calls Tryz.prog 86 #[ptrX fb] w (XOut w0 fb K xv v l (off + (callL x).length) (istep K.code K.dal x loc s)) := by
  obtain ⟨op, a, b, data⟩ := x
  rcases op_cases op with hn | rfl | rfl | rfl | rfl | rfl | rfl | rfl | rfl | rfl | rfl | rfl | rfl | rfl | rfl | rfl | rfl | rfl | rfl | rfl | rfl | rfl | rfl | rfl | rfl | rfl | rfl
  · simp [crB, callRightB, hn] at hr
  · exact ey_64 h a b data hr hia hib rest hp hd1 hd2 hcd hloc hks
  · exact ey_192 h a b data hr hia hib rest hp hd1 hd2 hcd hloc hks
  · exact ey_128 h a b data hr hia hib rest hp hd1 hd2 hcd hloc hks
  · exact ey_0 h a b data hr hia hib rest hp hd1 hd2 hcd hloc hks
  · exact ey_10 h a b data hr hia hib rest hp hd1 hd2 hcd hloc hks
  · exact ey_11 h a b data hr hia hib rest hp hd1 hd2 hcd hloc hks
  · exact ey_1 h a b data hr hia hib rest hp (hord (by simp [movesB])) hd1 hd2 hcd hloc hks
  · exact ey_2 h a b data hr hia hib rest hp hd1 hd2 hcd hloc hks
  · exact ey_3 h a b data hr hia hib rest hp (hord (by simp [movesB])) hd1 hd2 hcd hloc hks
  · exact ey_4 h a b data hr hia hib rest hp (hord (by simp [movesB])) hd1 hd2 hcd hloc hks
  · exact ey_5 h a b data hr hia hib rest hp hd1 hd2 hcd hloc hks
  · exact ey_9 h a b data hr hia hib rest hp hd1 hd2 hcd hloc hks
  · exact ey_12 h a b data hr hia hib rest hp hd1 hd2 hcd hloc hks
  · exact absurd rfl h20
  · exact ey_6 h a b data hr hia hib rest hp hd1 hd2 hcd hloc hks
  · exact ey_7 h a b data hr hia hib rest hp hd1 hd2 hcd hloc hks
  · exact ey_8 h a b data hr hia hib rest hp hd1 hd2 hcd hloc hks
  · exact ey_13 h a b data hr hia hib rest hp hd1 hd2 hcd hloc hks
  · exact ey_14 h a b data hr hia hib rest hp hd1 hd2 hcd hloc hks
  · obtain rfl := hx (by simp)
    exact ey_15 h a b data hr hia hib rest hp hd1 hd2 hcd hloc hks
  · obtain rfl := hx (by simp)
    exact ey_16 h a b data hr hia hib rest hp hd1 hd2 hcd hloc hks
  · obtain rfl := hx (by simp)
    exact ey_22 h a b data hr hia hib rest hp hd1 hd2 hcd hloc hks
  · exact ey_17 h a b data hr hia hib rest hp hd1 hd2 hcd hloc hks
  · exact ey_18 h a b data hr hia hib rest hp hd1 hd2 hcd hloc hks
  · exact ey_21 h a b data hr hia hib rest hp hd1 hd2 hcd hloc hks
  · exact ey_19 h a b data hr hia hib rest hp hd1 hd2 hcd hloc hks
end Go.Proofs.YtahohmdfllgedaaGreat

namespace Go.Proofs.YtahohmdfllgedaaGreat
open Go.RowKit

section
variable {w0 w w' : World} {fb : Nat} {K : FK} {mb : Nat} {ev sv : Value} {qs : List SQ} {xv v : Value} {loc : Nat} {s : LSta} {l : List UInt8} {off : Nat} {rd : Bool}
theorem ExV.any {w w' : World} {xv xv' ev : Value} {l : List UInt8} {bs : List Nat} (h : ExV w xv ev l) (hx : xv.ownBlock = none) (f : Fr bs w w') : ExV w' xv' ev l :=
  ⟨h.1.fr f (fun g hg => by have := h.2 g hg; rw [hx] at this; cases this), fun g hg => by have := h.2 g hg; rw [hx] at this; cases this⟩
theorem MapR.any {w w' : World} {xv xv' : Value} {mb : Nat} {m : LMap} {bs : List Nat} (h : MapR w xv mb m) (hx : xv.ownBlock = none) (f : Fr bs w w') (hb : mb ∉ bs) : MapR w' xv' mb m := by
  obtain ⟨g, h1, h2⟩ := h
  exact ⟨g, h1.fr f hb, fun k => (h2 k).imp id (fun ⟨r, v, a, b, ev, c, d⟩ => ⟨r, v, a, b, ev, c, d.any hx f⟩)⟩
/-- The buffer has been filled anew: where no expression lies in it. -/
theorem FX.rebuf (h : FX w0 w fb K mb ev sv qs xv v loc s l off rd) (hxv : xv.ownBlock = none) {v' xv' : Value} {l' : List UInt8} {off' : Nat} {rd' : Bool} (f : Fr (K.bb :: v.ownBlock.toList) w w') (hb' : BufR w' K.bb v' l' off' rd')
    (ow' : w'.ownsRow w0.heap.size 5 1 v' l'.length (vbs l')) (hx' : ∀ g, xv'.ownBlock = some g → v'.ownBlock = some g) : FX w0 w' fb K mb ev sv qs xv' v' loc s l' off' rd' := by
  have hb : ∀ {k cs t z}, w.heap[k]? = some (.cells cs t z) → t ≠ 132 → t ≠ 5 → k ∉ K.bb :: v.ownBlock.toList := fun {k cs t z} hk h1 h2 hm => by
    rcases List.mem_cons.1 hm with rfl | hm
    · exact cells_ne hk h.bf.1 h1 rfl
    · obtain ⟨cur, hc⟩ := own_cells h.fo.ow (by simpa using hm)
      exact cells_ne hk hc h2 rfl
  have hm : ∀ {k K' g}, MapIs w k K' g → k ∉ K.bb :: v.ownBlock.toList := fun {k K' g} hk hm => by
    rcases List.mem_cons.1 hm with rfl | hm
    · exact cmap_ne h.bf.1 hk rfl
    · obtain ⟨cur, hc⟩ := own_cells h.fo.ow (by simpa using hm)
      exact cmap_ne hc hk rfl
  have hr : ∀ {k m}, MapR w xv k m → k ∉ K.bb :: v.ownBlock.toList := fun {k m} hk => by obtain ⟨g, h1, -⟩ := hk; exact hm h1
  have hs : ∀ g, sv.ownBlock = some g → g ∉ K.bb :: v.ownBlock.toList := fun g hg => by obtain ⟨cur, hc⟩ := own_cells h.fo.sr hg; exact hb hc (by decide) (by decide)
  obtain ⟨cs, hcb, hc8⟩ := h.fo.cb
  refine ⟨f.get h.fc (hb h.fc (by decide) (by decide)), hb', ⟨h.fo.ex.any hxv f, h.fo.mp.any hxv f (hr h.fo.mp), h.fo.ib.fr f (hm h.fo.ib), f.get h.fo.st (hb h.fo.st (by decide) (by decide)), own_fr h.fo.sr f hs, fun q hq => ⟨(h.fo.sq q hq).1.any hxv f, (h.fo.sq q hq).2.any hxv f (hr (h.fo.sq q hq).2)⟩, h.fo.sk, h.fo.nd,
    ⟨cs, f.get hcb (hb hcb (by decide) (by decide)), hc8⟩, ow', hx', h.fo.gm, h.fo.gq, h.fo.gs, h.fo.gb⟩, h.fr.trans f (fun i hi hlt => ?_), h.gf⟩
  rcases List.mem_cons.1 hi with rfl | hi
  · have := h.fo.gb; omega
  · have := own_ge h.fo.ow (g := i) (by simpa using hi); omega
end

set_option maxRecDepth 100000 in
set_option maxHeartbeats 4000000 in
theorem BufTruncate_any (b base : Nat) (a : Option Addr) (c : Nat) (l : List UInt8) (off : Nat) (rd : Bool) (w : World) (h : BufR w b (.slice a l.length c) l off rd) (ho : w.ownsRow base 5 1 (.slice a l.length c) l.length (vbs l)) :
    Calls Tryz.prog 84 #[.pointer (some ⟨b, 0, none⟩), .int .i64 0] w fun e w' => e = .returned (.tuple #[]) ∧ ∃ a', (∀ g, (Value.slice a' 0 c).ownBlock = some g → (Value.slice a l.length c).ownBlock = some g) ∧ BufR w' b (.slice a' 0 c) [] 0 false ∧ w'.ownsRow base 5 1 (.slice a' 0 c) 0 [] ∧ Fr [b] w w' := by
  have hB := h
  obtain ⟨hb, hs, hne, hoff, hl⟩ := h
  have hz : w.ownsRow base 5 1 (.slice a 0 c) 0 [] := by
    refine ⟨by simp, ?_⟩
    rcases ho.2 with ⟨hv, -⟩ | ⟨g, cap, cur, hv, h1, h2, h3, h4, h5, -⟩
    · simp only [Value.slice.injEq] at hv
      obtain ⟨rfl, -, rfl⟩ := hv
      exact .inl ⟨rfl, rfl⟩
    · simp only [Value.slice.injEq] at hv
      obtain ⟨rfl, -, rfl⟩ := hv
      exact .inr ⟨g, c, cur, rfl, h1, h2, Nat.zero_le _, h4, h5, by simp⟩
  have hcm : c ≤ 9223372036854775807 ∧ l.length ≤ c := by
    rcases ho.2 with ⟨hv, h0⟩ | ⟨g, cap, cur, hv, h1, h2, h3, h4, h5, -⟩
    · simp only [Value.slice.injEq] at hv; omega
    · simp only [Value.slice.injEq] at hv; unfold maxLen at h4; omega
  obtain ⟨hc1, hc2⟩ := hcm
  have c0 : w.cell? ⟨b, 0, none⟩ = some (.slice a l.length c) := by rw [blk_cell hb]; rfl
  have c1 : w.cell? ⟨b, 1, none⟩ = some (.int .i64 (off : Int)) := by rw [blk_cell hb]; rfl
  have c2 : w.cell? ⟨b, 2, none⟩ = some (.bool rd) := by rw [blk_cell hb]; rfl
  have f0 : w.frozen? ⟨b, 0, none⟩ = false := blk_free hb _
  have f1 : w.frozen? ⟨b, 1, none⟩ = false := blk_free hb _
  have f2 : w.frozen? ⟨b, 2, none⟩ = false := blk_free hb _
  have Hb := Lib.hid hb
  have Hz := Lib.hid hz
  have Hne := Lib.hid hne
  generalize l.length = n at *
  clear hb hz hne hB hs ho
  cases a with
  | none =>
    go_enter Tryz.func84, Tryz.ntmps84
    go_wp2_with fail
    refine bodyPost_ret (results_none rfl _ _ _) rfl ?_
    have hf : Fr [b] w (((w.setCell ⟨b, 2, none⟩ (.bool false)).setCell ⟨b, 0, none⟩ (.slice none 0 c)).setCell ⟨b, 1, none⟩ (.int .i64 0)) := (((Fr.refl [b] w).setCell (.inl (by simp)) _).setCell (.inl (by simp)) _).setCell (.inl (by simp)) _
    have hvb : ∀ g, (Value.slice none 0 c).ownBlock = some g → g ∉ [b] := fun g hg hm => by simp at hm; subst hm; exact Hne.out hg
    have ho := own_fr Hz.out hf hvb
    have := blk_set (blk_set (blk_set Hb.out 2 (.bool false)) 0 (.slice none 0 c)) 1 (.int .i64 0)
    exact ⟨rfl, none, fun g hg => hg, ⟨by simpa using this, own_sl ho, fun e => hvb b e (by simp), Nat.zero_le _, by simp⟩, ho, hf⟩
  | some ad =>
    go_enter Tryz.func84, Tryz.ntmps84
    go_wp2_with fail
    refine bodyPost_ret (results_none rfl _ _ _) rfl ?_
    have hf : Fr [b] w (((w.setCell ⟨b, 2, none⟩ (.bool false)).setCell ⟨b, 0, none⟩ (.slice (some ad) 0 c)).setCell ⟨b, 1, none⟩ (.int .i64 0)) := (((Fr.refl [b] w).setCell (.inl (by simp)) _).setCell (.inl (by simp)) _).setCell (.inl (by simp)) _
    have hvb : ∀ g, (Value.slice (some ad) 0 c).ownBlock = some g → g ∉ [b] := fun g hg hm => by simp at hm; subst hm; exact Hne.out hg
    have ho := own_fr Hz.out hf hvb
    have := blk_set (blk_set (blk_set Hb.out 2 (.bool false)) 0 (.slice (some ad) 0 c)) 1 (.int .i64 0)
    exact ⟨rfl, (some ad), fun g hg => hg, ⟨by simpa using this, own_sl ho, fun e => hvb b e (by simp), Nat.zero_le _, by simp⟩, ho, hf⟩

set_option maxRecDepth 100000 in
set_option maxHeartbeats 4000000 in
theorem BufWrite_any (b base : Nat) (a : Option Addr) (c : Nat) (rd : Bool) (pa : Option Addr) (pc : Nat) (p : List UInt8) (w : World) (h : BufR w b (.slice a 0 c) [] 0 rd) (ho : w.ownsRow base 5 1 (.slice a 0 c) 0 []) (hp : Sl w (.slice pa p.length pc) (vbs p)) (hpl : p.length ≤ 1073751824) (hbase : base ≤ w.heap.size) (hpb : ∀ g, (Value.slice pa p.length pc).ownBlock = some g → g ≠ b) :
    Calls Tryz.prog 85 #[.pointer (some ⟨b, 0, none⟩), .slice pa p.length pc] w fun e w' => (∃ n, e = .returned (.tuple #[.int .i64 n, .nilIface])) ∧ ∃ a' c', BufR w' b (.slice a' p.length c') p 0 false ∧ w'.ownsRow base 5 1 (.slice a' p.length c') p.length (vbs p) ∧ Fr (b :: (Value.slice a 0 c).ownBlock.toList) w w' := by
  obtain ⟨hb, hs, hne, -, -⟩ := h
  have c0 : w.cell? ⟨b, 0, none⟩ = some (.slice a 0 c) := by rw [blk_cell hb]; rfl
  have c2 : w.cell? ⟨b, 2, none⟩ = some (.bool rd) := by rw [blk_cell hb]; rfl
  have f0 : w.frozen? ⟨b, 0, none⟩ = false := blk_free hb _
  have f2 : w.frozen? ⟨b, 2, none⟩ = false := blk_free hb _
  have hF1 : Fr [b] w (w.setCell ⟨b, 2, none⟩ (.bool false)) := (Fr.refl _ _).setCell (.inl (by simp)) _
  have HB := Lib.hid hb
  have HO := Lib.hid (own_fr ho hF1 (fun g hg hm => by simp at hm; subst hm; exact hne hg))
  have HP := Lib.hid (hp.fr hF1 (fun g hg => by simpa using hpb g hg))
  have HF1 := Lib.hid hF1
  have Hne := Lib.hid hne
  have Hpb := Lib.hid hpb
  have hbs : Hid (base ≤ (w.setCell ⟨b, 2, none⟩ (.bool false)).heap.size) := by have := hF1.size; show _ ≤ _; omega
  have hB1 : Hid ((w.setCell ⟨b, 2, none⟩ (.bool false)).heap[b]? = some (.cells #[.slice a 0 c, .int .i64 0, .bool false] 132 (0, 0))) := by show _ = _; simpa using blk_set hb 2 (.bool false)
  obtain ⟨q1, q2, q3⟩ := sl_news3 HP.out
  have Q2 := Lib.hid q2
  have Q3 := Lib.hid q3
  have hpn : p.length = (vbs p).length := q1
  clear hb hs hne ho hp hF1 hpb hbase q1 q2 q3
  obtain ⟨n, hn⟩ : ∃ n, p.length = n := ⟨_, rfl⟩
  rw [hn] at HP Hpb Q2 hpl
  simp only [hn]
  have HN := Lib.hid hn
  clear hn hpn
  go_enter Tryz.func85, Tryz.ntmps85
  go_wp2_with (at_builtin; go_must (refine wpList_app sliceB _ rfl _ _ rfl base (.slice a 0 c) 0 [] rfl HO.out pa n pc (vbs p) rfl (by simp [HN.out]) Q2.out Q3.out (vbs_one _) (by omega) (by decide) hbs.out ?_))
  intro a' c' w1 ho1 hf1 hg1
  have ho1' : w1.ownsRow base 5 1 (.slice a' n c') n (vbs p) := by simpa using ho1
  have HO1 := Lib.hid ho1'
  have HF2 := Lib.hid hf1
  have HB2 : Hid (w1.heap[b]? = some (.cells #[.slice a 0 c, .int .i64 0, .bool false] 132 (0, 0))) := hf1.get hB1.out (fun hm => by have := Hne.out; simp at hm; exact this (by simpa using hm))
  have d0 : w1.cell? ⟨b, 0, none⟩ = some (.slice a 0 c) := by rw [blk_cell HB2.out]; rfl
  have z0 : w1.frozen? ⟨b, 0, none⟩ = false := blk_free HB2.out _
  have HG : Hid (∀ g, (Value.slice a' n c').ownBlock = some g → g ≠ b) := fun g hg => by
    rcases hg1 g (by simpa using hg) with h | h
    · rintro rfl; exact Hne.out h
    · have := lt_heap HB.out; have := HF1.out.size; omega
  clear ho1 ho1' hf1 hg1 c0 c2 f0 f2
  go_wp2_with fail
  go_ret2
  have hf : Fr [b] w1 (w1.setCell ⟨b, 0, none⟩ (.slice a' n c')) := (Fr.refl _ _).setCell (.inl (by simp)) _
  have ho := own_fr HO1.out hf (fun g hg => by simpa using HG.out g hg)
  refine ⟨⟨_, rfl⟩, a', c', ⟨?_, own_sl ho, fun e => HG.out b e rfl, Nat.zero_le _, by rw [HN.out]; omega⟩, ho, ?_⟩
  · have := blk_set HB2.out 0 (.slice a' n c')
    simpa using this
  · exact ((HF1.out.mono (by simp)).trans HF2.out (fun i hi _ => by simp at hi ⊢; exact .inr hi)).setCell (.inl (by simp)) _

/-! ### the loops -/
def cOff (w : World) (bb : Nat) : Nat := match w.cell? ⟨bb, 1, none⟩ with | some (.int _ n) => n.toNat | _ => 0
theorem cOff_buf {w : World} {b : Nat} {v : Value} {l : List UInt8} {off : Nat} {rd : Bool} (h : BufR w b v l off rd) : cOff w b = off := by
  have : w.cell? ⟨b, 1, none⟩ = some (.int .i64 (off : Int)) := by rw [blk_cell h.1]; rfl
  simp [cOff, this]
/-- A right instruction of a frame's description. -/
structure OkC (x : LCall) : Prop where
  r : crB x = true
  a : i64 x.a
  b : i64 x.b
  h20 : x.op ≠ 20
/-- .. of a common entry's. -/
structure OkI (x : LCall) : Prop extends OkC x where
  mv : movesB x.op = false
  ex : x.op ≠ 15 ∧ x.op ≠ 16 ∧ x.op ≠ 22
theorem callL_pos (x : LCall) : 0 < (callL x).length := by simp [callL]
theorem ite_or {p : Prop} [Decidable p] {α : Type} {a b c : α} (h : (if p then a else b) = c) : (p ∧ a = c) ∨ b = c := by by_cases hp : p; (rw [if_pos hp] at h; exact .inl ⟨hp, h⟩); (rw [if_neg hp] at h; exact .inr h)
/-- How often a state is put aside. -/
def push1 (x : LCall) : Nat := if x.op = 10 then 1 else 0
def pushes (L : List LCall) : Nat := (L.map push1).sum
theorem iCall_len {off : Int} {x : LCall} {s s' : LSta} (h : iCall off x s = some s') : s'.2.length ≤ s.2.length + push1 x := by
  have hp : ∀ {t}, popT s = some t → t.2.length ≤ s.2.length + push1 x := fun {t} ht => by
    unfold popT at ht
    split at ht
    · cases ht
    · obtain rfl := Option.some.inj ht; simp; omega
  have h10 : x.op = 10 → s.2.length + 1 ≤ s.2.length + push1 x := fun e => by unfold push1; rw [if_pos e]; omega
  unfold iCall at h
  iterate 15 (rcases ite_or h with ⟨hc, h⟩ | h; · (first | exact hp h | (obtain rfl := Option.some.inj h; first | exact Nat.le_add_right _ _ | (have := h10 hc; simpa using this))))
  obtain rfl := Option.some.inj h; exact Nat.le_add_right _ _
theorem pushes_drop {L : List LCall} {k : Nat} (hk : k < L.length) : pushes (L.drop k) = push1 L[k] + pushes (L.drop (k + 1)) := by
  rw [List.drop_eq_getElem_cons hk, pushes, List.map_cons, List.sum_cons]; rfl
theorem pushes_le (L : List LCall) : pushes L ≤ L.length := by
  induction L with
  | nil => exact Nat.le_refl _
  | cons x xs ih =>
    have : push1 x ≤ 1 := by unfold push1; split <;> omega
    simp only [pushes, List.map_cons, List.sum_cons, List.length_cons] at ih ⊢; omega
theorem callsL_drop {L : List LCall} {k : Nat} (hk : k < L.length) : (callsL L).drop (callsL (L.take k)).length = callL L[k] ++ callsL (L.drop (k + 1)) := by
  have e : callsL L = callsL (L.take k) ++ callsL (L.drop k) := by rw [callsL, callsL, callsL, ← List.flatMap_append, List.take_append_drop]
  rw [e, List.drop_left, List.drop_eq_getElem_cons hk, callsL, List.flatMap_cons]; rfl
theorem callsL_all (L : List LCall) : callsL (L.take L.length) = callsL L := by rw [List.take_length]
theorem callsL_lt {L : List LCall} {k : Nat} (hk : k < L.length) : (callsL (L.take k)).length < (callsL L).length := by
  have := congrArg List.length (callsL_drop hk)
  rw [List.length_drop, List.length_append] at this
  have := callL_pos L[k]
  omega
theorem callsL_succ {L : List LCall} {k : Nat} (hk : k < L.length) : (callsL (L.take (k + 1))).length = (callsL (L.take k)).length + (callL L[k]).length := by
  rw [callsL_take _ _ hk, List.length_append]

/-- What a run of a common entry's instructions leaves. -/
def ROut (w0 : World) (fb : Nat) (K : FK) (xv v : Value) (loc : Nat) (l : List UInt8) (o : Option LSta) (e : Ending) (w' : World) : Prop :=
  match o with
  | none => PanP w0 e w'
  | some s => XPost w0 fb K xv v loc s l l.length e w'

set_option maxRecDepth 100000 in
set_option maxHeartbeats 8000000 in
theorem execProg_any {w0 w : World} {fb : Nat} {K : FK} {mb : Nat} {ev sv : Value} {qs : List SQ} {xv v : Value} {loc : Nat} {s : LSta} {L : List LCall} {rd : Bool} (h : FX w0 w fb K mb ev sv qs xv v loc s (callsL L) 0 rd) (hL : ∀ x ∈ L, OkI x) (hs : s.2 = []) (hn : pushes L ≤ 200)
    (hord : loc ≤ 4398046511104) (hd1 : -64 ≤ K.dal) (hd2 : K.dal ≤ 64) (hcd : K.code ≤ 64) :
    Calls Tryz.prog 83 #[ptrX fb] w (ROut w0 fb K xv v loc (callsL L) (iRun K.dal L s)) := by
  have H := Lib.hid h
  have HL := Lib.hid hL
  have Hs := Lib.hid hs
  clear h hL hs
  go_enter Tryz.func83, Tryz.ntmps83
  go_wp2_with fail
  go_loopw [] (fun wr => ∃ k s', k ≤ L.length ∧ s'.2.length + pushes (L.drop k) ≤ pushes L ∧ iRun K.dal (L.drop k) s' = iRun K.dal L s ∧ ∃ mb ev sv qs rd, FX w0 wr fb K mb ev sv qs xv v loc s' (callsL L) (callsL (L.take k)).length rd) (fun wr => (callsL L).length - cOff wr K.bb)
  case atStart => exact ⟨0, s, Nat.zero_le _, by rw [Hs.out]; simp, rfl, _, _, _, _, _, by simpa [callsL] using H.out⟩
  case round =>
    obtain ⟨k, s', hk, hsl, hrun, mb', ev', sv', qs', rd', hx⟩ := hrel
    have HX := Lib.hid hx
    have Hrun := Lib.hid hrun
    have c9 := hx.c9
    have c15 : wr.cell? ⟨fb, 15, none⟩ = some .nilIface := hx.cell 15
    clear hx hrun
    by_cases hlt : k < L.length
    · obtain ⟨m, hm⟩ : ∃ m, (callsL (L.take k)).length + m = (callsL L).length := ⟨(callsL L).length - (callsL (L.take k)).length, by have := callsL_lt hlt; omega⟩
      have hm0 : (0 : Int) < (m : Int) := by have := callsL_lt hlt; omega
      have Hm := Lib.hid hm
      have hc15 : ∀ q, (wr.drewN q).cell? ⟨fb, 15, none⟩ = some .nilIface := fun q => c15
      clear hm
      go_wp2_with (go_at_call 41; go_must (refine (BufLen_any K.bb v _ _ m rd' _ HX.out.bf Hm.out).mono ?_); rintro e w' ⟨rfl, kq, rfl⟩)
      have hok := HL.out _ (List.getElem_mem hlt)
      have HOK := Lib.hid hok
      have he := exec_any (HX.out.idle (Fr.drewN (Fr.refl [] wr) kq)) L[k] hok.r hok.a hok.b hok.h20 (fun h => by have := hok.ex; omega) _ (callsL_drop hlt) (fun h => by rw [hok.mv] at h; cases h) hd1 hd2 hcd hord (by omega)
      have hpd := pushes_drop hlt
      have hst : istep K.code K.dal L[k] loc s' = (iCall K.dal L[k] s').map fun t => (loc, t) := by unfold istep; rw [hok.mv]; rfl
      rw [hst] at he
      cases hic : iCall K.dal L[k] s' with
      | none =>
        rw [hic] at he
        refine he.mono ?_
        rintro e w3 ⟨⟨t, x, rfl⟩, hf⟩
        refine ⟨rfl, ?_⟩
        have : iRun K.dal L s = none := by rw [← Hrun.out, List.drop_eq_getElem_cons hlt, iRun, hic]; rfl
        rw [this]
        exact ⟨⟨_, _, rfl⟩, hf⟩
      | some s2 =>
        rw [hic] at he
        have hl2 := iCall_len hic
        have hr2 : iRun K.dal (L.drop (k + 1)) s2 = iRun K.dal L s := by rw [← Hrun.out, List.drop_eq_getElem_cons hlt, iRun, hic]; rfl
        refine he.mono ?_
        rintro e w3 ⟨rfl, mb2, ev2, sv2, qs2, rd2, h2⟩
        rw [← callsL_succ hlt] at h2
        have H2 := Lib.hid h2
        have Hr2 := Lib.hid hr2
        clear h2 hr2 he hst hic hok
        go_wp2_with fail
        go_roundw
        case rel => exact ⟨k + 1, s2, by omega, by omega, Hr2.out, _, _, _, _, _, H2.out⟩
        case measure =>
          rw [cOff_buf H2.out.bf, cOff_buf HX.out.bf, callsL_succ hlt]
          have := callL_pos L[k]; have := callsL_lt hlt; omega
    · obtain rfl : k = L.length := by omega
      have hz : (callsL (L.take L.length)).length + 0 = (callsL L).length := by rw [callsL_all]; rfl
      have Hz := Lib.hid hz
      clear hlt hz
      go_wp2_with (go_at_call 41; go_must (refine (BufLen_any K.bb v _ _ 0 rd' _ HX.out.bf Hz.out).mono ?_); rintro e w' ⟨rfl, kq, rfl⟩)
      go_end0
      have hr := Hrun.out
      rw [List.drop_length] at hr
      rw [← hr]
      have hx := HX.out.idle (Fr.drewN (Fr.refl [] wr) kq)
      rw [callsL_all] at hx
      exact ⟨rfl, _, _, _, _, _, hx⟩
end Go.Proofs.YtahohmdfllgedaaGreat

namespace Go.Proofs.YtahohmdfllgedaaGreat
open Go.RowKit

/-- What a run of a frame's instructions up to a place leaves. -/
def UOut (w0 : World) (fb : Nat) (K : FK) (l : List UInt8) (r : Value) (o : Option LSta) (e : Ending) (w' : World) : Prop :=
  match o with
  | none => PanP w0 e w'
  | some s => e = .returned r ∧ ∃ mb ev sv qs v loc off rd, FX w0 w' fb K mb ev sv qs v v loc s l off rd

theorem BufWrite_n (b base : Nat) (a : Option Addr) (c : Nat) (rd : Bool) (pa : Option Addr) (pc n : Nat) (p : List UInt8) (w : World) (hn : p.length = n) (h : BufR w b (.slice a 0 c) [] 0 rd) (ho : w.ownsRow base 5 1 (.slice a 0 c) 0 []) (hp : Sl w (.slice pa n pc) (vbs p)) (hpl : n ≤ 1073751824) (hbase : base ≤ w.heap.size) (hpb : ∀ g, (Value.slice pa n pc).ownBlock = some g → g ≠ b) :
    Calls Tryz.prog 85 #[.pointer (some ⟨b, 0, none⟩), .slice pa n pc] w fun e w' => (∃ n, e = .returned (.tuple #[.int .i64 n, .nilIface])) ∧ ∃ a' c', BufR w' b (.slice a' p.length c') p 0 false ∧ w'.ownsRow base 5 1 (.slice a' p.length c') p.length (vbs p) ∧ Fr (b :: (Value.slice a 0 c).ownBlock.toList) w w' := by
  subst hn; exact BufWrite_any b base a c rd pa pc p w h ho hp hpl hbase hpb

set_option maxRecDepth 100000 in
set_option maxHeartbeats 4000000 in
theorem ExecuteUntil_any {w0 w : World} {fb : Nat} {K : FK} {mb : Nat} {ev sv : Value} {qs : List SQ} {xv v : Value} {loc : Nat} {s : LSta} {l : List UInt8} {off : Nat} {rd : Bool} {L : List LCall} {pa : Option Addr} {pc : Nat}
    (h : FX w0 w fb K mb ev sv qs xv v loc s l off rd) (hxv : xv.ownBlock = none) (hp : Sl w (.slice pa (callsL L).length pc) (vbs (callsL L))) (hpv : ∀ g, (Value.slice pa (callsL L).length pc).ownBlock = some g → g < w0.heap.size) (hpl : (callsL L).length ≤ 1073751824)
    (hL : ∀ x ∈ L, OkC x) (hs : s.2.length ≤ 200) (hn : pushes L ≤ 200) (hor : K.ord = .iface 69 (.agg #[])) (hpc : K.pc ≤ 4398046511104) (hd1 : -64 ≤ K.dal) (hd2 : K.dal ≤ 64) (hcd : K.code ≤ 64) :
    Calls Tryz.prog 58 #[ptrX fb, .slice pa (callsL L).length pc] w (UOut w0 fb K (callsL L) .nilIface (iFde K.code K.dal K.pc loc L s)) := by
  obtain ⟨a, c, rfl⟩ := own_slice h.fo.ow
  have H := Lib.hid h
  have HL := Lib.hid hL
  have HORD := Lib.hid hor
  have HP := Lib.hid hp
  have HPV := Lib.hid hpv
  have HXV := Lib.hid hxv
  have c9 := h.c9
  obtain ⟨n, hnn⟩ : ∃ n, (callsL L).length = n := ⟨_, rfl⟩
  have HNN := Lib.hid hnn
  rw [hnn] at HP HPV hpl
  simp only [hnn]
  clear h hL hor hp hpv hxv hnn
  go_enter Tryz.func58, Tryz.ntmps58
  go_wp2_with (go_at_call 84; go_must (refine (BufTruncate_any K.bb w0.heap.size a c l off rd w H.out.bf H.out.fo.ow).mono ?_))
  rintro e w1 ⟨rfl, a1, ha1, hb1, ho1, hf1⟩
  have H1 := Lib.hid (FX.rebuf (xv' := .slice none 0 0) H.out HXV.out (hf1.mono (by simp)) hb1 (by simpa using ho1) (by simp [Value.ownBlock]))
  have HF1 := Lib.hid hf1
  have c9' := H1.out.c9
  clear ha1 hb1 ho1 hf1
  go_wp2_with (go_at_call 85; go_must (refine (BufWrite_n K.bb w0.heap.size a1 c false pa pc n (callsL L) w1 HNN.out H1.out.bf (by simpa using H1.out.fo.ow) (HP.out.fr HF1.out (fun g hg => by have := HPV.out g hg; have := H1.out.fo.gb; simp; omega)) hpl H1.out.fr.size (fun g hg => by have := HPV.out g hg; have := H1.out.fo.gb; omega)).mono ?_))
  rintro e w2 ⟨⟨nn, rfl⟩, a2, c2, hb2, ho2, hf2⟩
  have H2 := Lib.hid (FX.rebuf (xv' := .slice a2 (callsL L).length c2) H1.out rfl hf2 hb2 ho2 (fun g hg => hg))
  clear hb2 ho2 hf2 c9'
  go_wp2_with fail
  go_loopw [] (fun wr => ∃ k loc' s', k ≤ L.length ∧ s'.2.length + pushes (L.drop k) ≤ s.2.length + pushes L ∧ iFde K.code K.dal K.pc loc' (L.drop k) s' = iFde K.code K.dal K.pc loc L s ∧ ∃ mb ev sv qs rd, FX w0 wr fb K mb ev sv qs (.slice a2 (callsL L).length c2) (.slice a2 (callsL L).length c2) loc' s' (callsL L) (callsL (L.take k)).length rd) (fun wr => (callsL L).length - cOff wr K.bb)
  case atStart => exact ⟨0, loc, s, Nat.zero_le _, by simp, rfl, _, _, _, _, _, by simpa [callsL] using H2.out⟩
  case round =>
    obtain ⟨k, loc', s', hk, hsl, hrun, mb', ev', sv', qs', rd', hx⟩ := hrel
    have HX := Lib.hid hx
    have Hrun := Lib.hid hrun
    have k9 := hx.c9
    have k15 : wr.cell? ⟨fb, 15, none⟩ = some .nilIface := hx.cell 15
    have k2 : wr.cell? ⟨fb, 2, none⟩ = some (.int .u64 (K.pc : Int)) := hx.cell 2
    have k0 := hx.c0
    obtain ⟨pcv, hpcv⟩ : ∃ pcv, K.pc = pcv := ⟨_, rfl⟩
    have Hpcv := Lib.hid hpcv
    rw [hpcv] at k2 hpc
    clear hx hrun hpcv c9
    by_cases hpl : pcv < loc'
    · have hq : ¬ ((loc' : Int) ≤ (pcv : Int)) := by omega
      have hq2 : ¬ loc' ≤ pcv := by omega
      have hq3 : decide (loc' ≤ pcv) = false := decide_eq_false hq2
      clear hq
      go_wp2_with fail
      go_quiet ((go_at_call 41; exact Calls.quiet_of (BufLen_any K.bb _ _ _ ((callsL L).length - (callsL (L.take k)).length) rd' _ HX.out.bf (by have := HX.out.bf.2.2.2.1; omega))))
      have k15q : ∀ q, (wr.drewN q).cell? ⟨fb, 15, none⟩ = some .nilIface := fun q => k15
      go_wp2_with fail
      go_ret
      have hr : iFde K.code K.dal K.pc loc L s = some s' := by rw [← Hrun.out]; exact iFde_past _ _ _ _ _ _ (by rw [Hpcv.out]; exact hpl)
      rw [hr]
      exact ⟨rfl, _, _, _, _, _, _, _, _, HX.out.idle (Fr.drewN (Fr.refl [] wr) _)⟩
    · have hq2 : loc' ≤ pcv := by omega
      have hq3 : decide (loc' ≤ pcv) = true := decide_eq_true hq2
      by_cases hlt : k < L.length
      · obtain ⟨m, hm⟩ : ∃ m, (callsL (L.take k)).length + m = (callsL L).length := ⟨(callsL L).length - (callsL (L.take k)).length, by have := callsL_lt hlt; omega⟩
        have hm0 : (0 : Int) < (m : Int) := by have := callsL_lt hlt; omega
        have hm1 : decide ((0 : Int) < (m : Int)) = true := decide_eq_true hm0
        have hm2 : 0 < m := by omega
        have hm3 : decide (0 < m) = true := decide_eq_true hm2
        have Hm := Lib.hid hm
        clear hm
        go_wp2_with fail
        go_quiet ((go_at_call 41; exact Calls.quiet_of (BufLen_any K.bb _ _ _ m rd' _ HX.out.bf Hm.out)))
        have HNQ : Hid (Fr [] wr (wr.drewN nq)) := Fr.drewN (Fr.refl [] wr) nq
        go_wp2_with fail
        have hok := HL.out _ (List.getElem_mem hlt)
        have hpd := pushes_drop hlt
        have he := exec_any (HX.out.idle HNQ.out) L[k] hok.r hok.a hok.b hok.h20 (fun _ => rfl) _ (callsL_drop hlt) (fun _ => HORD.out) hd1 hd2 hcd (by omega) (by omega)
        have hfd : iFde K.code K.dal K.pc loc' (L.drop k) s' = if movesB L[k].op then iFde K.code K.dal K.pc (nextLoc K.code L[k] loc') (L.drop (k + 1)) s' else (iCall K.dal L[k] s').bind (iFde K.code K.dal K.pc loc' (L.drop (k + 1))) := by
          rw [List.drop_eq_getElem_cons hlt, iFde, if_neg (by rw [Hpcv.out]; omega)]
        obtain ⟨o, ho⟩ : ∃ o, istep K.code K.dal L[k] loc' s' = o := ⟨_, rfl⟩
        rw [ho] at he
        cases o with
        | none =>
          refine he.mono ?_
          rintro e w3 ⟨⟨t, x, rfl⟩, hf⟩
          refine ⟨rfl, ?_⟩
          have : iFde K.code K.dal K.pc loc L s = none := by
            rw [← Hrun.out, hfd]
            unfold istep at ho
            split at ho
            · cases ho
            · rename_i hmv
              rw [if_neg hmv]
              cases hic : iCall K.dal L[k] s' with
              | none => rfl
              | some t => rw [hic] at ho; cases ho
          rw [this]
          exact ⟨⟨_, _, rfl⟩, hf⟩
        | some p =>
          obtain ⟨loc2, s2⟩ := p
          have hh : iFde K.code K.dal K.pc loc2 (L.drop (k + 1)) s2 = iFde K.code K.dal K.pc loc L s ∧ s2.2.length ≤ s'.2.length + push1 L[k] := by
            rw [← Hrun.out, hfd]
            unfold istep at ho
            split at ho
            · rename_i hmv
              rw [if_pos hmv]
              simp only [Option.some.injEq, Prod.mk.injEq] at ho
              obtain ⟨rfl, rfl⟩ := ho
              exact ⟨rfl, by omega⟩
            · rename_i hmv
              rw [if_neg hmv]
              cases hic : iCall K.dal L[k] s' with
              | none => rw [hic] at ho; cases ho
              | some t =>
                rw [hic] at ho
                simp only [Option.map_some, Option.some.injEq, Prod.mk.injEq] at ho
                obtain ⟨rfl, rfl⟩ := ho
                exact ⟨rfl, iCall_len hic⟩
          refine he.mono ?_
          rintro e w3 ⟨rfl, mb2, ev2, sv2, qs2, rd2, h2⟩
          rw [← callsL_succ hlt] at h2
          have G2 := Lib.hid h2
          have Hr2 := Lib.hid hh.1
          have hl2 := hh.2
          clear h2 hh he ho hfd hok
          go_wp2_with fail
          go_roundw
          case rel => exact ⟨k + 1, loc2, s2, by omega, by omega, Hr2.out, _, _, _, _, _, G2.out⟩
          case measure =>
            rw [cOff_buf G2.out.bf, cOff_buf HX.out.bf, callsL_succ hlt]
            have := callL_pos L[k]; have := callsL_lt hlt; omega
      · obtain rfl : k = L.length := by omega
        have hz : (callsL (L.take L.length)).length + 0 = (callsL L).length := by rw [callsL_all]; rfl
        have Hz := Lib.hid hz
        have k15q : ∀ q, (wr.drewN q).cell? ⟨fb, 15, none⟩ = some .nilIface := fun q => k15
        clear hlt hz
        go_wp2_with fail
        go_quiet ((go_at_call 41; exact Calls.quiet_of (BufLen_any K.bb _ _ _ 0 rd' _ HX.out.bf Hz.out)))
        go_wp2_with fail
        go_ret
        have hr := Hrun.out
        rw [List.drop_length] at hr
        rw [← hr]
        exact ⟨rfl, _, _, _, _, _, _, _, _, HX.out.idle (Fr.drewN (Fr.refl [] wr) _)⟩
end Go.Proofs.YtahohmdfllgedaaGreat

namespace Go.Proofs.YtahohmdfllgedaaGreat
open Go.RowKit

set_option maxRecDepth 100000 in
set_option maxHeartbeats 2000000 in
theorem newStateStack_any (w : World) : Calls Tryz.prog 82 #[] w fun e w' => ∃ sb sv, e = .returned (ptrX sb) ∧ w.heap.size ≤ sb ∧ w'.heap[sb]? = some (.cells #[sv] 203 (0, 0)) ∧ w'.ownsRow w.heap.size 216 5 sv 0 [] ∧ Fr [] w w' := by
  obtain ⟨i, hi, hz, hs, hby⟩ := info_parts sliceRS.info
  obtain ⟨w', hrun, ho, hg⟩ := run_makeSlice_owned (P := Tryz.prog) (w := w) w.heap.size 201 216 i _ 5 Tryz.underlying201 hi hz hs .i64 .i64 0 (by decide) (by rw [hby]; decide) (by decide) (Nat.le_refl _)
  have hrun2 : (Instr.makeSlice 201 (.int .i64 0) (.int .i64 0)).run Tryz.prog w = .ok (.slice (some ⟨w.heap.size, 0, none⟩) 0 0) w' := hrun
  have Ho := Lib.hid ho
  have Hg := Lib.hid (grown_fr hg)
  clear hrun ho hg hi hz hs hby
  go_enter Tryz.func82, Tryz.ntmps82
  go_wp2_with fail
  go_ret
  exact ⟨w'.heap.size, _, rfl, Hg.out.size, blk_new w' _, own_fr Ho.out ((Fr.refl [] w').alloc _) (by simp), Hg.out.alloc _⟩

theorem make_bytesN (k : IntKind) (n : Nat) (hn : n ≤ 1100000000) : ∃ C : Array Value, C.size = n ∧ ∀ w, (Instr.makeSlice 26 (.int k (n : Int)) (.int k (n : Int))).run Tryz.prog w = .ok (.slice (some ⟨w.heap.size, 0, none⟩) n n) (w.alloc (.cells C 5)) := by
  obtain ⟨i, hi, hz, hs, hby⟩ := info_parts sliceB.info
  refine ⟨madeCells (Value.int .u8 0).cells (n * i.size), ?_, fun w => ?_⟩
  · rw [hs, Nat.mul_one]
    exact size_madeCells _ _
  · have h := run_make (P := Tryz.prog) w 26 5 i (.int .u8 0) Tryz.underlying26 hi hz k k (n : Int) (n : Int) (by omega) (by omega) (by rw [hby]; omega) (by omega)
    simpa using h
theorem copyB_run (w : World) (g n : Nat) (cur : Array Value) (sp : Option Addr) (sc : Nat) (l : List UInt8) (hg : w.heap[g]? = some (.cells cur 5 (0, 0))) (hcur : cur.size = n) (hl : l.length = n) (hs : Sl w (.slice sp n sc) (vbs l)) :
    ∃ w', (∀ ty, (Builtin.copy_ #[26, 26] ty #[.slice (some ⟨g, 0, none⟩) n n, .slice sp n sc]).run Tryz.prog w = .ok (.int .i64 (n : Int)) w') ∧ w'.heap[g]? = some (.cells (vbs l).toArray 5 (0, 0)) ∧ Fr [g] w w' := by
  obtain ⟨-, h2, h3⟩ := sl_news3 hs
  cases sp with
  | none =>
    obtain ⟨rfl, rfl⟩ := h2 rfl
    have : l = [] := List.eq_nil_of_length_eq_zero hl
    subst this
    have hc : cur = #[] := Array.eq_empty_of_size_eq_zero hcur
    subst hc
    have hsz : (sizeOf 5).run Tryz.prog w = .ok 1 w := by kernel_rfl
    refine ⟨w, fun ty => ?_, hg, Fr.refl _ _⟩
    have h0 : (goInt (0 : Nat) : Value) = .int .i64 ((0 : Nat) : Int) := rfl
    simp [Builtin.copy_, run_underlying Tryz.underlying26, Builtin.lenOf, hsz, Builtin.firstCells, storeCells, goInt]
  | some ad =>
    have hn : (vbs l).length = Nat.min n n := by rw [List.length_map, hl, Nat.min_eq_min]; omega
    have hrun := fun ty => run_copy_row (P := Tryz.prog) w 26 26 ty 5 g 0 n n ad n sc cur 5 (vbs l) Tryz.underlying26 (by kernel_rfl) hg hn (h3 ad rfl) (by simp; omega) (vbs_one l)
    have e2 : (List.take 0 cur.toList ++ vbs l ++ List.drop (0 + (vbs l).length) cur.toList).toArray = (vbs l).toArray := by
      rw [List.drop_of_length_le (by simp; omega), List.append_nil]; simp
    refine ⟨w.setRow g (vbs l).toArray, fun ty => by rw [hrun ty, e2]; simp [hl, goInt], setRow_heap w g _ _ _ _ hg, ⟨rfl, rfl, rfl, by simp [World.setRow], fun k hk hn => setRow_other w g k _ (by simpa using hn)⟩⟩
theorem own_made {w : World} {base g n : Nat} {vs : List Value} (h : w.heap[g]? = some (.cells vs.toArray 5 (0, 0))) (hn : vs.length = n) (hb : base ≤ g) (hm : n ≤ 1100000000) : w.ownsRow base 5 1 (.slice (some ⟨g, 0, none⟩) n n) n vs := by
  refine ⟨by omega, .inr ⟨g, n, vs.toArray, rfl, hb, h, Nat.le_refl _, by unfold maxLen; omega, by simp [hn], by simp [← hn]⟩⟩

theorem step_makeMap {P : Program} {w : World} {ops : Array Oper} {o : Oper} {a : Act} {K' : Act → World → Prop} {Q : Exit → Act → World → Prop} {E : Prop} (d : Nat) (hd : o.dst = some d) (hgd : o.guard = none) (T : TypeId) (hop : o.op = Op.makeMap T none)
    (hK : ∀ b W, MapIs W b .u64 (fun _ => none) → b = w.heap.size → W.heap.size = w.heap.size + 1 → Fr [] w W → K' (a.put o.dst (.map (some b))) W) :
    if Region.wanted o (yielded ops a.tmps) = true then Oper.wp P o a w K' Q else E := by
  have hw : Region.wanted o (yielded ops a.tmps) = true := by simp [Region.wanted, hgd]
  rw [if_pos hw]
  unfold Oper.wp
  simp [execOp, hop, run_makeMap, Result.andThen]
  exact hK _ _ (MapIs.empty _ (blk_new w _)) rfl (by simp) ((Fr.refl _ _).alloc _)

/-! ### padding -/
def cnop : LCall := ⟨0, 0, 0, []⟩
theorem callL_cnop : callL cnop = [0] := by simp [callL, cnop, headB, shape, opnds]
theorem callsL_pad (l : List LCall) (z : Nat) : callsL (l ++ List.replicate z cnop) = callsL l ++ List.replicate z 0 := by
  rw [callsL, List.flatMap_append]
  congr 1
  induction z with
  | zero => rfl
  | succ z ih => rw [List.replicate_succ, List.flatMap_cons, ih, callL_cnop, List.replicate_succ]; rfl
theorem iCall_cnop (off : Int) (s : LSta) : iCall off cnop s = some s := by simp [iCall, cnop]
theorem iRun_nops (off : Int) (z : Nat) (s : LSta) : iRun off (List.replicate z cnop) s = some s := by
  induction z with
  | zero => rfl
  | succ z ih => rw [List.replicate_succ, iRun, iCall_cnop]; exact ih
theorem iRun_pad (off : Int) (z : Nat) (l : List LCall) : ∀ s, iRun off (l ++ List.replicate z cnop) s = iRun off l s := by
  induction l with
  | nil => intro s; exact iRun_nops off z s
  | cons x xs ih =>
    intro s
    rw [List.cons_append, iRun, iRun]
    congr 1
    funext t; exact ih t
theorem iFde_nops (code : Nat) (off : Int) (pc loc z : Nat) (s : LSta) : iFde code off pc loc (List.replicate z cnop) s = some s := by
  induction z with
  | zero => rfl
  | succ z ih =>
    rw [List.replicate_succ, iFde]
    split
    · rfl
    · rw [if_neg (by decide), iCall_cnop]; exact ih
theorem iFde_pad (code : Nat) (off : Int) (pc z : Nat) (l : List LCall) : ∀ loc s, iFde code off pc loc (l ++ List.replicate z cnop) s = iFde code off pc loc l s := by
  induction l with
  | nil => intro loc s; rw [List.nil_append, iFde_nops]; rfl
  | cons x xs ih =>
    intro loc s
    rw [List.cons_append, iFde, iFde]
    split
    · rfl
    split
    · exact ih _ _
    · congr 1
      funext t; exact ih _ t
theorem pushes_pad (l : List LCall) (z : Nat) : pushes (l ++ List.replicate z cnop) = pushes l := by
  have h0 : pushes (List.replicate z cnop) = 0 := by
    induction z with
    | zero => rfl
    | succ z ih => rw [List.replicate_succ]; unfold pushes at ih ⊢; rw [List.map_cons, List.sum_cons, ih]; rfl
  unfold pushes at h0 ⊢
  rw [List.map_append, List.sum_append, h0]; rfl
theorem okC_cnop : OkC cnop := ⟨by decide, by unfold i64 cnop; decide, by unfold i64 cnop; decide, by decide⟩
theorem okI_cnop : OkI cnop := { okC_cnop with mv := by decide, ex := by decide }
theorem okC_of {x : LCall} (h : cfB x = true) (hi : i64 x.a ∧ i64 x.b) : OkC x := by
  simp [cfB] at h
  exact ⟨h.1, hi.1, hi.2, h.2⟩
theorem okI_of {x : LCall} (h : ccB x = true) (hi : i64 x.a ∧ i64 x.b) : OkI x := by
  simp [ccB] at h
  obtain ⟨⟨⟨⟨⟨⟨⟨h1, h2⟩, h3⟩, h4⟩, h5⟩, h6⟩, h7⟩, h8⟩ := h
  exact { r := h1, a := hi.1, b := hi.2, h20 := h2, mv := h6, ex := ⟨h3, h4, h5⟩ }
theorem ok_pad {P : LCall → Prop} {l : List LCall} {z : Nat} (h : ∀ x ∈ l, P x) (hn : P cnop) : ∀ x ∈ l ++ List.replicate z cnop, P x := fun x hx => by
  rcases List.mem_append.1 hx with hx | hx
  · exact h x hx
  · rw [List.eq_of_mem_replicate hx]; exact hn
end Go.Proofs.YtahohmdfllgedaaGreat
