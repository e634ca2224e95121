/- How the arguments of a statement are opened: what the form's reading gives the walks. -/
import Derived.Test.YtahohmdfllgedaaBase
import Derived.Test.YtahohmdfllgedaaRows
import Derived.ProofKit
import Derived.OpenShut
import Derived.ShutString
import Derived.ChangeOld
import Derived.Below
namespace Go.Proofs.Ytahohmdfllgedaa
open Go.ChangeShapes Go.WideShapes Go.ChangeAt Go.RowKit

theorem own_knob : ownKnob Try.prog.godebug = none := by kernel_rfl
theorem laid_out : laidOutB Try.prog = true := by kernel_rfl

theorem wf_bounds_u8 {n : Int} (h : (Lit.int .u8 n).wf = true) : 0 ≤ n ∧ n < 256 := by
  have h0 : IntKind.u8.min = 0 := rfl
  have h1 : IntKind.u8.max = 255 := rfl
  simp only [Lit.wf, Bool.and_eq_true, decide_eq_true_eq] at h; omega
theorem wf_bounds_u64 {n : Int} (h : (Lit.int .u64 n).wf = true) : 0 ≤ n ∧ n < 18446744073709551616 := by
  have h0 : IntKind.u64.min = 0 := rfl
  have h1 : IntKind.u64.max = 18446744073709551615 := rfl
  simp only [Lit.wf, Bool.and_eq_true, decide_eq_true_eq] at h; omega
theorem wf_bounds_i64 {n : Int} (h : (Lit.int .i64 n).wf = true) : -9223372036854775808 ≤ n ∧ n ≤ 9223372036854775807 := by
  have h0 : IntKind.i64.min = -9223372036854775808 := rfl
  have h1 : IntKind.i64.max = 9223372036854775807 := rfl
  simp only [Lit.wf, Bool.and_eq_true, decide_eq_true_eq] at h; omega

/-- An argument of type []byte. -/
theorem arg_bytes {H : Type} {enc : TypeId × Value → H} {W : World} {base : Nat} {spare : Nat → Bool} {held : Bool} {fuel : Nat} {a : Option Addr} {len cap : Nat} {x : DataW H × List MemPlace}
    (hf : DataW.trod enc Try.prog W base spare held fuel 23 [.slice a len cap] = some x) : ∃ l : List UInt8, l.length = len ∧ Sl W (.slice a len cap) (vbs l) := by
  rcases open_ints Try.underlying23 Try.underlying5 (by kernel_rfl) hf with ⟨hcs, _⟩ | ⟨x, n, c, zs, hcs, _, hl, hm, hz, _, hcell, hwz⟩
  · simp at hcs
    obtain ⟨rfl, rfl, rfl⟩ := hcs
    exact ⟨[], rfl, .inl ⟨rfl, rfl⟩⟩
  · simp at hcs
    obtain ⟨rfl, rfl, rfl⟩ := hcs
    have hlen : len ≤ zs.length := by rw [hz]; split <;> omega
    have e : (zs.take len).length = len := by rw [List.length_take]; omega
    refine ⟨(zs.take len).map (fun n => UInt8.ofNat n.toNat), by simp [Nat.min_eq_left hlen], .inr ⟨x, cap, by simp [Nat.min_eq_left hlen], by simp [Nat.min_eq_left hlen, hl], hm, fun i u hi => ?_⟩⟩
    have hil : i < len := by
      have := (List.getElem?_eq_some_iff.1 hi).1
      simp at this; omega
    rw [hcell i (by omega)]
    have hw := wf_bounds_u8 (hwz (zs[i]'(by omega)) (List.getElem_mem _))
    simp [hil, show i < zs.length by omega] at hi
    rw [← hi]
    simp only [List.getD, List.getElem?_eq_getElem (show i < zs.length by omega), Option.getD_some]
    congr 2
    have : (UInt8.ofNat zs[i].toNat).toNat = zs[i].toNat := by simp [Nat.mod_eq_of_lt (show zs[i].toNat < 256 by omega)]
    rw [this]; omega

end Go.Proofs.Ytahohmdfllgedaa
