/- What the calls that read numbers of variable length do: leb128.DecodeUnsigned, leb128.DecodeSigned over a plain buffer. -/
import Derived.Test.YtahohmdfllgedaaBuf
import Derived.Test.YtahohmdfllgedaaLeb
namespace Go.Proofs.Ytahohmdfllgedaa
open Go.RowKit

theorem m_Len (b : Nat) (w : World) : (method 337 75 (.pointer (some ⟨b, 0, none⟩)) "Len").run Try.prog w = .ok (69, .pointer (some ⟨b, 0, none⟩)) w := by kernel_rfl
theorem m_ReadByte (b : Nat) (w : World) : (method 337 75 (.pointer (some ⟨b, 0, none⟩)) "ReadByte").run Try.prog w = .ok (76, .pointer (some ⟨b, 0, none⟩)) w := by kernel_rfl

set_option maxRecDepth 100000 in
set_option maxHeartbeats 1000000 in
theorem lDecU_any (b : Nat) (v : Value) (l : List UInt8) (off : Nat) (rd : Bool) (w : World) (h : BufR w b v l off rd) (p rest : List UInt8) (hp : l.drop off = p ++ rest) (he : Ended p) (h10 : p.length ≤ 10) :
    Calls Try.prog 33 #[.iface 75 (.pointer (some ⟨b, 0, none⟩))] w fun e w' =>
      e = .returned (.tuple #[.int .u64 ((uval p % M64 : Nat) : Int), .int .u32 ((p.length : Nat) : Int)]) ∧ BufR w' b v l (off + p.length) true ∧ Fr [b] w w' := by
  have hm1 := m_Len
  have hm2 := m_ReadByte
  have hpl : Hid (0 < p.length) := List.length_pos_iff.2 (Ended_ne he)
  have hoff : Hid (off + p.length ≤ l.length) := by
    have := congrArg List.length hp; simp at this; have := h.2.2.2.1; show _ ≤ _; omega
  have hget : Hid (∀ k (hk : k < p.length), ∃ h2 : off + k < l.length, l[off + k] = p[k]) := by
    intro k hk
    have h3 := hoff.out
    refine ⟨by omega, ?_⟩
    have h4 : (l.drop off)[k]? = (p ++ rest)[k]? := by rw [hp]
    rw [List.getElem?_drop, List.getElem?_append_left hk, List.getElem?_eq_getElem (by omega), List.getElem?_eq_getElem hk] at h4
    exact Option.some.inj h4
  have H := Lib.hid h
  have He := Lib.hid he
  clear h hp he
  have hne : ((((l.length - off : Nat) : Int)) == 0) = false := by rw [beq_eq_false_iff_ne]; have h1 := hpl.out; have h2 := hoff.out; omega
  go_enter Try.func33, Try.ntmps33
  go_wp2_with (go_at_call 69; refine (BufLen_any b v l off (l.length - off) rd _ H.out (by have := hoff.out; omega)).mono ?_; rintro e w' ⟨rfl, k, rfl⟩)
  clear hne
  generalize hx : l.length - off = x
  go_loopw [4, 5, 6] (fun r s c wr => ∃ k : Nat, ∃ rd', k < p.length ∧ r = .int .u64 ((uval (p.take k) % M64 : Nat) : Int) ∧ s = .int .u64 ((7 * k : Nat) : Int) ∧ c = .int .u32 (k : Int) ∧
      BufR wr b v l (off + k) rd' ∧ Fr [b] w wr) (fun _ _ c _ => p.length - (intOf c).toNat)
  case atStart => exact ⟨0, rd, hpl.out, rfl, rfl, rfl, H.out, (Fr.refl _ _).drewN _⟩
  case round =>
    obtain ⟨k, rd', hk, rfl, rfl, rfl, hbuf, hfr⟩ := hrel
    have Hbuf := Lib.hid hbuf
    have Hfr := Lib.hid hfr
    clear hbuf hfr
    obtain ⟨hlt, hgk⟩ := hget.out k hk
    have hlast := Ended_get He.out k hk
    have hstep := uval_take_succ k hk
    generalize hy : p[k] = y at *
    have hk9 : k ≤ 9 := by omega
    have hds := dec_step (uval (p.take k)) k y hk9 (by have := uval_lt (p.take k); rwa [List.length_take, Nat.min_eq_left (by omega)] at this)
    rw [← hstep] at hds
    have Hstep := Lib.hid hstep
    have Hgk := Lib.hid hgk
    have Hlast := Lib.hid hlast
    have Hy := Lib.hid hy
    clear hstep hgk hlast hy
    by_cases hend : k + 1 = p.length
    · have t1 := top_bit_clear (Hlast.out.2 hend)
      rw [hend, List.take_length] at hds
      have Hend := Lib.hid hend
      clear hend
      generalize uval (p.take k) % M64 = z at *
      generalize hz' : uval p % M64 = z' at *
      have Hz' := Lib.hid hz'
      clear hz'
      go_wp2_with (go_at_call 76; refine (BufReadByte_some b v l (off + k) rd' _ Hbuf.out hlt).mono ?_; rw [Hgk.out]; rintro e w1 ⟨rfl, hbuf2, hf2⟩; have Hbuf2 := Lib.hid hbuf2; have Hf2 := Lib.hid hf2; clear hbuf2 hf2)
      go_ret2
      refine ⟨?_, ?_, Hfr.out.trans Hf2.out (fun _ h _ => h)⟩
      · rw [Hz'.out, ← Hend.out]; rfl
      · rw [← Hend.out]; exact Hbuf2.out
    · have t1 := top_bit_set (fun h => hend (Hlast.out.1 h))
      have hk1 : k + 1 < p.length := by omega
      generalize hz : uval (p.take k) % M64 = z at *
      generalize hz' : uval (p.take (k + 1)) % M64 = z' at *
      have Hz' := Lib.hid hz'
      clear hz hz' hend
      go_wp2_with (go_at_call 76; refine (BufReadByte_some b v l (off + k) rd' _ Hbuf.out hlt).mono ?_; rw [Hgk.out]; rintro e w1 ⟨rfl, hbuf2, hf2⟩; have Hbuf2 := Lib.hid hbuf2; have Hf2 := Lib.hid hf2; clear hbuf2 hf2)
      go_roundw
      case rel => exact ⟨k + 1, true, hk1, by rw [Hz'.out], by go_num, by go_num, by simpa [Nat.add_assoc] using Hbuf2.out, Hfr.out.trans Hf2.out (fun _ h _ => h)⟩
      case measure => simp [intOf]; omega
end Go.Proofs.Ytahohmdfllgedaa
