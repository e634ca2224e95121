/- The section of call frame information as bytes: plain Lean. -/
import Derived.Test.YtahohmdfllgedaaCallL
namespace Go.Proofs.Ytahohmdfllgedaa
open Go.RowKit

/-- How many noughts fill an entry. -/
def padK (n : Nat) : Nat := (8 - (n + 4) % 8) % 8
def padL (l : List UInt8) : List UInt8 := leL (l.length + padK l.length) 4 ++ (l ++ List.replicate (padK l.length) 0)
/-- A common entry's bytes, a frame's bytes ('at' is where its common entry lies). -/
def cieL (c : LCommon) : List UInt8 := leL 4294967295 4 ++ [UInt8.ofNat c.version.toNat, 0] ++ uleb c.code ++ sleb c.offset ++ uleb c.ret.toNat ++ callsL c.calls
def fdeL (start : Nat) (f : LFrame) : List UInt8 := leL start 4 ++ leL f.start 8 ++ leL f.size 8 ++ callsL f.calls
def entL (start : Nat) (c : LCommon) : List UInt8 := padL (cieL c) ++ c.frames.flatMap fun f => padL (fdeL start f)
/-- The section behind 'done' bytes. -/
def secFrom : Nat → List LCommon → List UInt8
  | _, [] => []
  | n, c :: cs => entL n c ++ secFrom (n + (entL n c).length) cs
def sectionL (l : List LCommon) : List UInt8 := secFrom 0 l

theorem secFrom_take (l : List LCommon) : ∀ (n k : Nat) (hk : k < l.length), secFrom n (l.take (k + 1)) = secFrom n (l.take k) ++ entL (n + (secFrom n (l.take k)).length) l[k] := by
  induction l with
  | nil => intro n k hk; simp at hk
  | cons c cs ih =>
    intro n k hk
    cases k with
    | zero => cases cs <;> simp [secFrom]
    | succ k =>
      have := ih (n + (entL n c).length) k (by simpa using hk)
      simp only [List.take_succ_cons, secFrom, List.getElem_cons_succ, this, List.append_assoc, List.length_append, Nat.add_assoc]

theorem padL_len (l : List UInt8) : (padL l).length ≤ l.length + 12 := by
  simp [padL, leL_length, padK]; omega

theorem callsL_len (l : List LCall) (h : ∀ c ∈ l, (callL c).length ≤ 141) : (callsL l).length ≤ 141 * l.length := by
  induction l with
  | nil => simp [callsL]
  | cons c cs ih =>
    have h1 := h c (by simp)
    have h2 := ih (fun x hx => h x (by simp [hx]))
    simp [callsL] at h2 ⊢
    omega
end Go.Proofs.Ytahohmdfllgedaa
