/- What leb128.DecodeSigned over a plain buffer does. -/
import Derived.Test.YtahohmdfllgedaaLebD
import Derived.Test.YtahohmdfllgedaaSleb
namespace Go.Proofs.Ytahohmdfllgedaa
open Go.RowKit

theorem wrap_uval_nil : wrap64 ((uval ([] : List UInt8) : Nat) : Int) = 0 := by decide +kernel

set_option maxRecDepth 100000 in
set_option maxHeartbeats 1000000 in
theorem lDecS_any (b : Nat) (v : Value) (l : List UInt8) (off : Nat) (rd : Bool) (w : World) (h : BufR w b v l off rd) (p rest : List UInt8) (hp : l.drop off = p ++ rest) (he : Ended p) (h10 : p.length ≤ 10) :
    Calls Try.prog 39 #[.iface 75 (.pointer (some ⟨b, 0, none⟩))] w fun e w' =>
      e = .returned (.tuple #[.int .i64 (wrap64 (sval p)), .int .u32 ((p.length : Nat) : Int)]) ∧ BufR w' b v l (off + p.length) true ∧ Fr [b] w w' := by
  have hm1 := m_Len
  have hm2 := m_ReadByte
  have hpl : Hid (0 < p.length) := List.length_pos_iff.2 (Ended_ne he)
  have hoff : Hid (off + p.length ≤ l.length) := by
    have := congrArg List.length hp; simp at this; have := h.2.2.2.1; show _ ≤ _; omega
  have hget : Hid (∀ k (hk : k < p.length), ∃ h2 : off + k < l.length, l[off + k] = p[k]) := by
    intro k hk
    have h3 := hoff.out
    refine ⟨by omega, ?_⟩
    have h4 : (l.drop off)[k]? = (p ++ rest)[k]? := by rw [hp]
    rw [List.getElem?_drop, List.getElem?_append_left hk, List.getElem?_eq_getElem (by omega), List.getElem?_eq_getElem hk] at h4
    exact Option.some.inj h4
  have H := Lib.hid h
  have He := Lib.hid he
  clear h hp he
  have hne : ((((l.length - off : Nat) : Int)) == 0) = false := by rw [beq_eq_false_iff_ne]; have h1 := hpl.out; have h2 := hoff.out; omega
  go_enter Try.func39, Try.ntmps39
  go_wp2_with (go_at_call 69; refine (BufLen_any b v l off (l.length - off) rd _ H.out (by have := hoff.out; omega)).mono ?_; rintro e w' ⟨rfl, k, rfl⟩)
  clear hne
  generalize hx : l.length - off = x
  go_loopw [6, 7, 8] (fun r s c wr => ∃ k : Nat, ∃ rd', k < p.length ∧ r = .int .i64 (wrap64 ((uval (p.take k) : Nat) : Int)) ∧ s = .int .u64 ((7 * k : Nat) : Int) ∧ c = .int .u32 (k : Int) ∧
      BufR wr b v l (off + k) rd' ∧ Fr [b] w wr) (fun _ _ c _ => p.length - (intOf c).toNat)
  case atStart => exact ⟨0, rd, hpl.out, by rw [List.take_zero, wrap_uval_nil], rfl, rfl, H.out, (Fr.refl _ _).drewN _⟩
  case round =>
    obtain ⟨k, rd', hk, rfl, rfl, rfl, hbuf, hfr⟩ := hrel
    have Hbuf := Lib.hid hbuf
    have Hfr := Lib.hid hfr
    clear hbuf hfr
    obtain ⟨hlt, hgk⟩ := hget.out k hk
    have hlast := Ended_get He.out k hk
    have hstep := uval_take_succ k hk
    generalize hy : p[k] = y at *
    have hk9 : k ≤ 9 := by omega
    have hds := sdec_step (uval (p.take k)) k y hk9 (by have := uval_lt (p.take k); rwa [List.length_take, Nat.min_eq_left (by omega)] at this)
    rw [← hstep] at hds
    have Hstep := Lib.hid hstep
    have Hgk := Lib.hid hgk
    have Hlast := Lib.hid hlast
    have Hy := Lib.hid hy
    clear hstep hgk hlast hy
    by_cases hend : k + 1 = p.length
    · have t1 := top_bit_clear (Hlast.out.2 hend)
      rw [hend, List.take_length] at hds
      have Hend := Lib.hid hend
      have hlx : p.getD (p.length - 1) 0 = y := by
        rw [← Hy.out, ← hend]; simp [List.getD, List.getElem?_eq_getElem hk]
      have hlast2 := sdec_last (uval p) p.length (by omega) h10 (uval_lt p)
      have Hlx := Lib.hid hlx
      clear hend hlx
      by_cases hsg : 64 ≤ y.toNat % 128
      · have hs1 : sval p = (uval p : Int) - ((128 ^ p.length : Nat) : Int) := by unfold sval; rw [Hlx.out, if_pos hsg]
        rw [← hs1] at hlast2
        have t6 := bit6_pos hsg
        have hsh : ∀ w : World, (Op.shift .shl .i64 1 .u64 (7 * (k : Int) + 7)).run Try.prog w = .ok (.int .i64 (shl1 p.length)) w := by
          intro w
          unfold Op.shift shl1
          rw [if_neg (by omega), ← Hend.out]
          have e1 : (7 * (k : Int) + 7).toNat = 7 * (k + 1) := by omega
          simp only [e1, IntKind.bits, Int.one_mul, wrap_i64_eq]
          rfl
        have Hs1 := Lib.hid hs1
        clear hs1
        generalize wrap64 ((uval (p.take k) : Nat) : Int) = z at *
        generalize hz' : wrap64 ((uval p : Nat) : Int) = z' at *
        generalize hz2 : wrap64 (sval p) = z2 at *
        generalize shl1 p.length = sh at *
        have Hz2 := Lib.hid hz2
        have Hz' := Lib.hid hz'
        clear hz' hz2
        go_wp2_with (go_at_call 76; refine (BufReadByte_some b v l (off + k) rd' _ Hbuf.out hlt).mono ?_; rw [Hgk.out]; rintro e w1 ⟨rfl, hbuf2, hf2⟩; have Hbuf2 := Lib.hid hbuf2; have Hf2 := Lib.hid hf2; clear hbuf2 hf2)
        go_ret2
        refine ⟨?_, ?_, Hfr.out.trans Hf2.out (fun _ h _ => h)⟩
        · rw [Hz2.out, ← Hend.out]; rfl
        · rw [← Hend.out]; exact Hbuf2.out
      · have hs1 : sval p = (uval p : Int) := by unfold sval; rw [Hlx.out, if_neg hsg, Int.sub_zero]
        have t6 := bit6_neg hsg
        have Hs1 := Lib.hid hs1
        clear hs1 hlast2
        generalize wrap64 ((uval (p.take k) : Nat) : Int) = z at *
        generalize hz' : wrap64 ((uval p : Nat) : Int) = z' at *
        have Hz' := Lib.hid hz'
        clear hz'
        go_wp2_with (go_at_call 76; refine (BufReadByte_some b v l (off + k) rd' _ Hbuf.out hlt).mono ?_; rw [Hgk.out]; rintro e w1 ⟨rfl, hbuf2, hf2⟩; have Hbuf2 := Lib.hid hbuf2; have Hf2 := Lib.hid hf2; clear hbuf2 hf2)
        go_ret2
        refine ⟨?_, ?_, Hfr.out.trans Hf2.out (fun _ h _ => h)⟩
        · rw [Hs1.out, Hz'.out, ← Hend.out]; rfl
        · rw [← Hend.out]; exact Hbuf2.out
    · have t1 := top_bit_set (fun h => hend (Hlast.out.1 h))
      have hk1 : k + 1 < p.length := by omega
      generalize hz : wrap64 ((uval (p.take k) : Nat) : Int) = z at *
      generalize hz' : wrap64 ((uval (p.take (k + 1)) : Nat) : Int) = z' at *
      have Hz' := Lib.hid hz'
      clear hz hz' hend
      go_wp2_with (go_at_call 76; refine (BufReadByte_some b v l (off + k) rd' _ Hbuf.out hlt).mono ?_; rw [Hgk.out]; rintro e w1 ⟨rfl, hbuf2, hf2⟩; have Hbuf2 := Lib.hid hbuf2; have Hf2 := Lib.hid hf2; clear hbuf2 hf2)
      go_roundw
      case rel => exact ⟨k + 1, true, hk1, by rw [Hz'.out], by go_num, by go_num, by simpa [Nat.add_assoc] using Hbuf2.out, Hfr.out.trans Hf2.out (fun _ h _ => h)⟩
      case measure => simp [intOf]; omega
end Go.Proofs.Ytahohmdfllgedaa
