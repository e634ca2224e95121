/- What leb128.DecodeSigned over a plain buffer does.
The machine: operations that read an operand and push a number. Printed by gen_eir.py.
What oplut hands back.
The machine's registers: Reg, Uint64Val. -/
import Derived.Test.YtahohmdfllgedaaCa1
import Derived.Test.YtahohmdfllgedaaCa10
import Derived.Test.YtahohmdfllgedaaCa0
import Derived.Test.YtahohmdfllgedaaRows
import Derived.Test.YtahohmdfllgedaaCa9
set_option linter.unusedVariables false
set_option linter.unusedSimpArgs false
namespace Go.Proofs.Ytahohmdfllgedaa
open Go.RowKit

theorem wrap_uval_nil : wrap64 ((uval ([] : List UInt8) : Nat) : Int) = 0 := by decide +kernel

set_option maxRecDepth 100000 in
set_option maxHeartbeats 1000000 in
theorem lDecS_any (b : Nat) (v : Value) (l : List UInt8) (off : Nat) (rd : Bool) (w : World) (h : BufR w b v l off rd) (p rest : List UInt8) (hp : l.drop off = p ++ rest) (he : Ended p) (h10 : p.length ≤ 10) :
    Calls Try.prog 39 #[.iface 75 (.pointer (some ⟨b, 0, none⟩))] w fun e w' =>
      e = .returned (.tuple #[.int .i64 (wrap64 (sval p)), .int .u32 ((p.length : Nat) : Int)]) ∧ BufR w' b v l (off + p.length) true ∧ Fr [b] w w' := by
  have hm1 := m_Len
  have hm2 := m_ReadByte
  have hpl : Hid (0 < p.length) := List.length_pos_iff.2 (Ended_ne he)
  have hoff : Hid (off + p.length ≤ l.length) := by
    have := congrArg List.length hp; simp at this; have := h.2.2.2.1; show _ ≤ _; omega
  have hget : Hid (∀ k (hk : k < p.length), ∃ h2 : off + k < l.length, l[off + k] = p[k]) := by
    intro k hk
    have h3 := hoff.out
    refine ⟨by omega, ?_⟩
    have h4 : (l.drop off)[k]? = (p ++ rest)[k]? := by rw [hp]
    rw [List.getElem?_drop, List.getElem?_append_left hk, List.getElem?_eq_getElem (by omega), List.getElem?_eq_getElem hk] at h4
    exact Option.some.inj h4
  have H := Lib.hid h
  have He := Lib.hid he
  clear h hp he
  have hne : ((((l.length - off : Nat) : Int)) == 0) = false := by rw [beq_eq_false_iff_ne]; have h1 := hpl.out; have h2 := hoff.out; omega
  go_enter Try.func39, Try.ntmps39
  go_wp2_with (go_at_call 69; refine (BufLen_any b v l off (l.length - off) rd _ H.out (by have := hoff.out; omega)).mono ?_; rintro e w' ⟨rfl, k, rfl⟩)
  clear hne
  generalize hx : l.length - off = x
  go_loopw [6, 7, 8] (fun r s c wr => ∃ k : Nat, ∃ rd', k < p.length ∧ r = .int .i64 (wrap64 ((uval (p.take k) : Nat) : Int)) ∧ s = .int .u64 ((7 * k : Nat) : Int) ∧ c = .int .u32 (k : Int) ∧
      BufR wr b v l (off + k) rd' ∧ Fr [b] w wr) (fun _ _ c _ => p.length - (intOf c).toNat)
  case atStart => exact ⟨0, rd, hpl.out, by rw [List.take_zero, wrap_uval_nil], rfl, rfl, H.out, (Fr.refl _ _).drewN _⟩
  case round =>
    obtain ⟨k, rd', hk, rfl, rfl, rfl, hbuf, hfr⟩ := hrel
    have Hbuf := Lib.hid hbuf
    have Hfr := Lib.hid hfr
    clear hbuf hfr
    obtain ⟨hlt, hgk⟩ := hget.out k hk
    have hlast := Ended_get He.out k hk
    have hstep := uval_take_succ k hk
    generalize hy : p[k] = y at *
    have hk9 : k ≤ 9 := by omega
    have hds := sdec_step (uval (p.take k)) k y hk9 (by have := uval_lt (p.take k); rwa [List.length_take, Nat.min_eq_left (by omega)] at this)
    rw [← hstep] at hds
    have Hstep := Lib.hid hstep
    have Hgk := Lib.hid hgk
    have Hlast := Lib.hid hlast
    have Hy := Lib.hid hy
    clear hstep hgk hlast hy
    by_cases hend : k + 1 = p.length
    · have t1 := top_bit_clear (Hlast.out.2 hend)
      rw [hend, List.take_length] at hds
      have Hend := Lib.hid hend
      have hlx : p.getD (p.length - 1) 0 = y := by
        rw [← Hy.out, ← hend]; simp [List.getD, List.getElem?_eq_getElem hk]
      have hlast2 := sdec_last (uval p) p.length (by omega) h10 (uval_lt p)
      have Hlx := Lib.hid hlx
      clear hend hlx
      by_cases hsg : 64 ≤ y.toNat % 128
      · have hs1 : sval p = (uval p : Int) - ((128 ^ p.length : Nat) : Int) := by unfold sval; rw [Hlx.out, if_pos hsg]
        rw [← hs1] at hlast2
        have t6 := bit6_pos hsg
        have hsh : ∀ w : World, (Op.shift .shl .i64 1 .u64 (7 * (k : Int) + 7)).run Try.prog w = .ok (.int .i64 (shl1 p.length)) w := by
          intro w
          unfold Op.shift shl1
          rw [if_neg (by omega), ← Hend.out]
          have e1 : (7 * (k : Int) + 7).toNat = 7 * (k + 1) := by omega
          simp only [e1, IntKind.bits, Int.one_mul, wrap_i64_eq]
          rfl
        have Hs1 := Lib.hid hs1
        clear hs1
        generalize wrap64 ((uval (p.take k) : Nat) : Int) = z at *
        generalize hz' : wrap64 ((uval p : Nat) : Int) = z' at *
        generalize hz2 : wrap64 (sval p) = z2 at *
        generalize shl1 p.length = sh at *
        have Hz2 := Lib.hid hz2
        have Hz' := Lib.hid hz'
        clear hz' hz2
        go_wp2_with (go_at_call 76; refine (BufReadByte_some b v l (off + k) rd' _ Hbuf.out hlt).mono ?_; rw [Hgk.out]; rintro e w1 ⟨rfl, hbuf2, hf2⟩; have Hbuf2 := Lib.hid hbuf2; have Hf2 := Lib.hid hf2; clear hbuf2 hf2)
        go_ret2
        refine ⟨?_, ?_, Hfr.out.trans Hf2.out (fun _ h _ => h)⟩
        · rw [Hz2.out, ← Hend.out]; rfl
        · rw [← Hend.out]; exact Hbuf2.out
      · have hs1 : sval p = (uval p : Int) := by unfold sval; rw [Hlx.out, if_neg hsg, Int.sub_zero]
        have t6 := bit6_neg hsg
        have Hs1 := Lib.hid hs1
        clear hs1 hlast2
        generalize wrap64 ((uval (p.take k) : Nat) : Int) = z at *
        generalize hz' : wrap64 ((uval p : Nat) : Int) = z' at *
        have Hz' := Lib.hid hz'
        clear hz'
        go_wp2_with (go_at_call 76; refine (BufReadByte_some b v l (off + k) rd' _ Hbuf.out hlt).mono ?_; rw [Hgk.out]; rintro e w1 ⟨rfl, hbuf2, hf2⟩; have Hbuf2 := Lib.hid hbuf2; have Hf2 := Lib.hid hf2; clear hbuf2 hf2)
        go_ret2
        refine ⟨?_, ?_, Hfr.out.trans Hf2.out (fun _ h _ => h)⟩
        · rw [Hs1.out, Hz'.out, ← Hend.out]; rfl
        · rw [← Hend.out]; exact Hbuf2.out
    · have t1 := top_bit_set (fun h => hend (Hlast.out.1 h))
      have hk1 : k + 1 < p.length := by omega
      generalize hz : wrap64 ((uval (p.take k) : Nat) : Int) = z at *
      generalize hz' : wrap64 ((uval (p.take (k + 1)) : Nat) : Int) = z' at *
      have Hz' := Lib.hid hz'
      clear hz hz' hend
      go_wp2_with (go_at_call 76; refine (BufReadByte_some b v l (off + k) rd' _ Hbuf.out hlt).mono ?_; rw [Hgk.out]; rintro e w1 ⟨rfl, hbuf2, hf2⟩; have Hbuf2 := Lib.hid hbuf2; have Hf2 := Lib.hid hf2; clear hbuf2 hf2)
      go_roundw
      case rel => exact ⟨k + 1, true, hk1, by rw [Hz'.out], by go_num, by go_num, by simpa [Nat.add_assoc] using Hbuf2.out, Hfr.out.trans Hf2.out (fun _ h _ => h)⟩
      case measure => simp [intOf]; omega
end Go.Proofs.Ytahohmdfllgedaa

namespace Go.Proofs.Ytahohmdfllgedaa
open Go.RowKit

/-- At the place p of the code stand the bytes bs; p' is the place behind them. -/
structure AtC (D : CxD) (p : Nat) (bs : List UInt8) (p' : Nat) : Prop where
  bytes : D.code.drop p = bs ++ D.code.drop p'
  add : p' = p + bs.length
  le : p' ≤ D.code.length
section
variable {D : CxD} {cb : Nat} {w w' : World} {k : List Int} {ps : List LPiece} {p bb : Nat} {bv : Value} {bl : List UInt8} {off : Nat} {rd : Bool} {kv qv : Value} {qs : List (LPiece × Value)}
theorem CxV.hp (h : CxV D cb w k ps p bb bv bl off rd kv qv qs) {bs : List UInt8} {p' : Nat} (ha : AtC D p bs p') : bl.drop off = bs ++ D.code.drop p' := h.pos.trans ha.bytes
theorem CxV.room (h : CxV D cb w k ps p bb bv bl off rd kv qv qs) {bs : List UInt8} {p' : Nat} (ha : AtC D p bs p') : off + bs.length ≤ bl.length := by
  have h1 := congrArg List.length (h.hp ha)
  have h2 := h.buf.2.2.2.1
  simp at h1; omega
theorem CxV.tk (h : CxV D cb w k ps p bb bv bl off rd kv qv qs) {bs : List UInt8} {p' n : Nat} (ha : AtC D p bs p') (hn : bs.length = n) : (bl.drop off).take n = bs := by rw [h.hp ha, ← hn]; simp
theorem CxV.dr (h : CxV D cb w k ps p bb bv bl off rd kv qv qs) {bs : List UInt8} {p' n : Nat} (ha : AtC D p bs p') (hn : bs.length = n) : bl.drop (off + n) = D.code.drop p' := by
  rw [← List.drop_drop, h.hp ha, ← hn]; simp
theorem CxV.blt (h : CxV D cb w k ps p bb bv bl off rd kv qv qs) : bb < w.heap.size ∧ ∀ g, bv.ownBlock = some g → g < w.heap.size := ⟨h.buf.lt, fun g hg => Nat.lt_of_lt_of_le (h.bD g hg) h.fr.size⟩
/-- Behind a call that read bs. -/
theorem CxV.past (h : CxV D cb w k ps p bb bv bl off rd kv qv qs) {bs : List UInt8} {p' n : Nat} (ha : AtC D p bs p') (hn : bs.length = n) {rd' : Bool} (hb : BufR w' bb bv bl (off + n) rd') (f : Fr [bb] w w') :
    CxV D cb w' k ps p' bb bv bl (off + n) rd' kv qv qs := h.read hb f (h.dr ha hn) ha.le
end
theorem ReadByte_y (b : Nat) (v : Value) (l : List UInt8) (off : Nat) (rd : Bool) (w : World) (y : UInt8) (rest : List UInt8) (h : BufR w b v l off rd) (hd : l.drop off = y :: rest) :
    Calls Try.prog 76 #[.pointer (some ⟨b, 0, none⟩)] w fun e w' => e = .returned (.tuple #[vb y, .nilIface]) ∧ BufR w' b v l (off + 1) true ∧ Fr [b] w w' := by
  have hlt : off < l.length := by have := congrArg List.length hd; simp at this; omega
  have hy : l[off] = y := by
    have h2 := congrArg (fun m => m[0]?) hd
    simp [List.getElem?_drop, hlt] at h2
    exact h2
  have := BufReadByte_some b v l off rd w h hlt
  rw [hy] at this
  exact this
theorem u64_back (v : Int) (h : i64 v) : wrap64 (IntKind.u64.wrap v) = v := by
  rw [IntKind.wrap_u64]; unfold wrap64; unfold i64 at h; omega

set_option maxRecDepth 100000 in
set_option maxHeartbeats 4000000 in
theorem oconstu_any (D : CxD) (cb : Nat) (w : World) (k : List Int) (ps : List LPiece) (p p' : Nat) (n : Nat) (h : CxR D cb w k ps p) (hk : k.length ≤ 1000000) (ha : AtC D p (uleb n) p') (hn : n < 18446744073709551616) :
    Calls Try.prog 92 #[.int .u8 16, .pointer (some ⟨cb, 0, none⟩)] w (OkP D cb (k ++ [wrap64 (n : Int)]) ps p') := by
  obtain ⟨bb, bv, bl, off, rd, kv, qv, qs, hv⟩ := h
  obtain ⟨ka, kc, rfl⟩ := own_slice hv.own
  have c2 : w.cell? ⟨cb, 2, none⟩ = some (.slice ka k.length kc) := hv.cell 2
  have f2 := hv.free 2
  have Hv := Lib.hid hv
  have SZ := hv.fr.size
  have c0 : w.cell? ⟨cb, 0, none⟩ = some (.pointer (some ⟨bb, 0, none⟩)) := hv.cell 0
  have Ha := Lib.hid ha
  have Hun : Hid (uval (uleb n) % M64 = n) := by show _ = _; rw [uval_uleb]; exact Nat.mod_eq_of_lt (by unfold M64; exact hn)
  have Hn := Lib.hid hn
  clear hv ha hn
  go_enter Try.func92, Try.ntmps92
  go_wp2_with (first | (go_at_call 33; go_must (refine (lDecU_any bb bv bl off rd _ Hv.out.buf (uleb n) (D.code.drop p') (Hv.out.hp Ha.out) (uleb_ended n) (uleb_le10 Hn.out)).mono ?_); rw [Hun.out]; rintro e w1 ⟨rfl, hb1, hf1⟩; have hv1 := Hv.out.past Ha.out (n := (uleb n).length) (rfl) hb1 hf1; have Hv1 := Lib.hid hv1; have d2 : w1.cell? ⟨cb, 2, none⟩ = some (.slice ka k.length kc) := hv1.cell 2; have d6 : w1.cell? ⟨cb, 6, none⟩ = some (vi D.cfa) := hv1.cell 6; have d7 : w1.cell? ⟨cb, 7, none⟩ = some (vi D.base) := hv1.cell 7; have d5 : w1.cell? ⟨cb, 5, none⟩ = some (.int .u64 0) := hv1.cell 5; have x2 := hv1.free 2; have SZ1 := hv1.fr.size; clear hb1 hf1 hv1) | (at_builtin; go_must (refine wpList_app4 sliceI64 _ rfl _ _ rfl D.W.heap.size _ k.length (vis k) rfl (Hv1.out.ow (by first | exact ((Fr.refl [] _).alloc _) | exact ((Fr.refl [] _).alloc _).drew | exact ((Fr.refl [] _).drew).alloc _ | exact (((Fr.refl [] _).drewN _).alloc _) | exact ((((Fr.refl [] _).drewN _).alloc _).drew) | exact ((((Fr.refl [] _).drewN _).drew).alloc _))) (some ⟨w1.heap.size, 0, none⟩) 1 1 [_] rfl rfl (fun h => by cases h) (news_one rfl _ _) (by simp [Value.oneCell']) (by omega) (by decide) (by simp; omega) ?_); intro a8 c8' w8 ho8 hf8 hg8 ht8; have HP := Lib.hid (Hv1.out.pushed (by first | exact ((Fr.refl [] _).alloc _) | exact ((Fr.refl [] _).alloc _).drew | exact ((Fr.refl [] _).drew).alloc _ | exact (((Fr.refl [] _).drewN _).alloc _) | exact ((((Fr.refl [] _).drewN _).alloc _).drew) | exact ((((Fr.refl [] _).drewN _).drew).alloc _)) hf8 ht8 ho8); have hb8 := Hv1.out.app (by first | exact ((Fr.refl [] _).alloc _) | exact ((Fr.refl [] _).alloc _).drew | exact ((Fr.refl [] _).drew).alloc _ | exact (((Fr.refl [] _).drewN _).alloc _) | exact ((((Fr.refl [] _).drewN _).alloc _).drew) | exact ((((Fr.refl [] _).drewN _).drew).alloc _)) ht8; have s2 : w8.cell? ⟨cb, 2, none⟩ = some (.slice ka k.length kc) := blk_cell hb8 2; have z2 : w8.frozen? ⟨cb, 2, none⟩ = false := blk_free hb8 2; clear ho8 hf8 hg8 ht8 hb8))
  go_wp2_with fail
  go_ret
  exact ⟨rfl, HP.out⟩

set_option maxRecDepth 100000 in
set_option maxHeartbeats 4000000 in
theorem oconsts_any (D : CxD) (cb : Nat) (w : World) (k : List Int) (ps : List LPiece) (p p' : Nat) (n : Int) (h : CxR D cb w k ps p) (hk : k.length ≤ 1000000) (ha : AtC D p (sleb n) p') (hn : i64 n) :
    Calls Try.prog 93 #[.int .u8 17, .pointer (some ⟨cb, 0, none⟩)] w (OkP D cb (k ++ [n]) ps p') := by
  obtain ⟨bb, bv, bl, off, rd, kv, qv, qs, hv⟩ := h
  obtain ⟨ka, kc, rfl⟩ := own_slice hv.own
  have c2 : w.cell? ⟨cb, 2, none⟩ = some (.slice ka k.length kc) := hv.cell 2
  have f2 := hv.free 2
  have Hv := Lib.hid hv
  have SZ := hv.fr.size
  have c0 : w.cell? ⟨cb, 0, none⟩ = some (.pointer (some ⟨bb, 0, none⟩)) := hv.cell 0
  have Ha := Lib.hid ha
  have Hun : Hid (wrap64 (sval (sleb n)) = n) := by show _ = _; rw [sval_sleb]; exact IntWalk.wrap64_in _ hn
  have Hn := Lib.hid hn
  clear hv ha hn
  go_enter Try.func93, Try.ntmps93
  go_wp2_with (first | (go_at_call 39; go_must (refine (lDecS_any bb bv bl off rd _ Hv.out.buf (sleb n) (D.code.drop p') (Hv.out.hp Ha.out) (sleb_ended n) (sleb_le10 Hn.out.1 Hn.out.2)).mono ?_); rw [Hun.out]; rintro e w1 ⟨rfl, hb1, hf1⟩; have hv1 := Hv.out.past Ha.out (n := (sleb n).length) (rfl) hb1 hf1; have Hv1 := Lib.hid hv1; have d2 : w1.cell? ⟨cb, 2, none⟩ = some (.slice ka k.length kc) := hv1.cell 2; have d6 : w1.cell? ⟨cb, 6, none⟩ = some (vi D.cfa) := hv1.cell 6; have d7 : w1.cell? ⟨cb, 7, none⟩ = some (vi D.base) := hv1.cell 7; have d5 : w1.cell? ⟨cb, 5, none⟩ = some (.int .u64 0) := hv1.cell 5; have x2 := hv1.free 2; have SZ1 := hv1.fr.size; clear hb1 hf1 hv1) | (at_builtin; go_must (refine wpList_app4 sliceI64 _ rfl _ _ rfl D.W.heap.size _ k.length (vis k) rfl (Hv1.out.ow (by first | exact ((Fr.refl [] _).alloc _) | exact ((Fr.refl [] _).alloc _).drew | exact ((Fr.refl [] _).drew).alloc _ | exact (((Fr.refl [] _).drewN _).alloc _) | exact ((((Fr.refl [] _).drewN _).alloc _).drew) | exact ((((Fr.refl [] _).drewN _).drew).alloc _))) (some ⟨w1.heap.size, 0, none⟩) 1 1 [_] rfl rfl (fun h => by cases h) (news_one rfl _ _) (by simp [Value.oneCell']) (by omega) (by decide) (by simp; omega) ?_); intro a8 c8' w8 ho8 hf8 hg8 ht8; have HP := Lib.hid (Hv1.out.pushed (by first | exact ((Fr.refl [] _).alloc _) | exact ((Fr.refl [] _).alloc _).drew | exact ((Fr.refl [] _).drew).alloc _ | exact (((Fr.refl [] _).drewN _).alloc _) | exact ((((Fr.refl [] _).drewN _).alloc _).drew) | exact ((((Fr.refl [] _).drewN _).drew).alloc _)) hf8 ht8 ho8); have hb8 := Hv1.out.app (by first | exact ((Fr.refl [] _).alloc _) | exact ((Fr.refl [] _).alloc _).drew | exact ((Fr.refl [] _).drew).alloc _ | exact (((Fr.refl [] _).drewN _).alloc _) | exact ((((Fr.refl [] _).drewN _).alloc _).drew) | exact ((((Fr.refl [] _).drewN _).drew).alloc _)) ht8; have s2 : w8.cell? ⟨cb, 2, none⟩ = some (.slice ka k.length kc) := blk_cell hb8 2; have z2 : w8.frozen? ⟨cb, 2, none⟩ = false := blk_free hb8 2; clear ho8 hf8 hg8 ht8 hb8))
  go_wp2_with fail
  go_ret
  exact ⟨rfl, HP.out⟩

set_option maxRecDepth 100000 in
set_option maxHeartbeats 4000000 in
theorem oconst1u_any (D : CxD) (cb : Nat) (w : World) (k : List Int) (ps : List LPiece) (p p' : Nat) (y : UInt8) (h : CxR D cb w k ps p) (hk : k.length ≤ 1000000) (ha : AtC D p ([y]) p') :
    Calls Try.prog 90 #[.int .u8 8, .pointer (some ⟨cb, 0, none⟩)] w (OkP D cb (k ++ [(y.toNat : Int)]) ps p') := by
  obtain ⟨bb, bv, bl, off, rd, kv, qv, qs, hv⟩ := h
  obtain ⟨ka, kc, rfl⟩ := own_slice hv.own
  have c2 : w.cell? ⟨cb, 2, none⟩ = some (.slice ka k.length kc) := hv.cell 2
  have f2 := hv.free 2
  have Hv := Lib.hid hv
  have SZ := hv.fr.size
  have c0 : w.cell? ⟨cb, 0, none⟩ = some (.pointer (some ⟨bb, 0, none⟩)) := hv.cell 0
  have Ha := Lib.hid ha
  have yb := y.toNat_lt
  clear hv ha
  go_enter Try.func90, Try.ntmps90
  go_wp2_with (first | (go_at_call 76; go_must (refine (ReadByte_y bb bv bl off rd _ y (D.code.drop p') Hv.out.buf (Hv.out.hp Ha.out)).mono ?_); rintro e w1 ⟨rfl, hb1, hf1⟩; have hv1 := Hv.out.past Ha.out (n := 1) (rfl) hb1 hf1; have Hv1 := Lib.hid hv1; have d2 : w1.cell? ⟨cb, 2, none⟩ = some (.slice ka k.length kc) := hv1.cell 2; have d6 : w1.cell? ⟨cb, 6, none⟩ = some (vi D.cfa) := hv1.cell 6; have d7 : w1.cell? ⟨cb, 7, none⟩ = some (vi D.base) := hv1.cell 7; have d5 : w1.cell? ⟨cb, 5, none⟩ = some (.int .u64 0) := hv1.cell 5; have x2 := hv1.free 2; have SZ1 := hv1.fr.size; clear hb1 hf1 hv1) | (at_builtin; go_must (refine wpList_app4 sliceI64 _ rfl _ _ rfl D.W.heap.size _ k.length (vis k) rfl (Hv1.out.ow (by first | exact ((Fr.refl [] _).alloc _) | exact ((Fr.refl [] _).alloc _).drew | exact ((Fr.refl [] _).drew).alloc _ | exact (((Fr.refl [] _).drewN _).alloc _) | exact ((((Fr.refl [] _).drewN _).alloc _).drew) | exact ((((Fr.refl [] _).drewN _).drew).alloc _))) (some ⟨w1.heap.size, 0, none⟩) 1 1 [_] rfl rfl (fun h => by cases h) (news_one rfl _ _) (by simp [Value.oneCell']) (by omega) (by decide) (by simp; omega) ?_); intro a8 c8' w8 ho8 hf8 hg8 ht8; have HP := Lib.hid (Hv1.out.pushed (by first | exact ((Fr.refl [] _).alloc _) | exact ((Fr.refl [] _).alloc _).drew | exact ((Fr.refl [] _).drew).alloc _ | exact (((Fr.refl [] _).drewN _).alloc _) | exact ((((Fr.refl [] _).drewN _).alloc _).drew) | exact ((((Fr.refl [] _).drewN _).drew).alloc _)) hf8 ht8 ho8); have hb8 := Hv1.out.app (by first | exact ((Fr.refl [] _).alloc _) | exact ((Fr.refl [] _).alloc _).drew | exact ((Fr.refl [] _).drew).alloc _ | exact (((Fr.refl [] _).drewN _).alloc _) | exact ((((Fr.refl [] _).drewN _).alloc _).drew) | exact ((((Fr.refl [] _).drewN _).drew).alloc _)) ht8; have s2 : w8.cell? ⟨cb, 2, none⟩ = some (.slice ka k.length kc) := blk_cell hb8 2; have z2 : w8.frozen? ⟨cb, 2, none⟩ = false := blk_free hb8 2; clear ho8 hf8 hg8 ht8 hb8))
  go_wp2_with fail
  go_ret
  exact ⟨rfl, HP.out⟩

set_option maxRecDepth 100000 in
set_option maxHeartbeats 4000000 in
theorem oconst1s_any (D : CxD) (cb : Nat) (w : World) (k : List Int) (ps : List LPiece) (p p' : Nat) (y : UInt8) (v : Int) (h : CxR D cb w k ps p) (hk : k.length ≤ 1000000) (ha : AtC D p ([y]) p') (hv2 : IntKind.i8.wrap (y.toNat : Int) = v) (hvi : i64 v) :
    Calls Try.prog 91 #[.int .u8 9, .pointer (some ⟨cb, 0, none⟩)] w (OkP D cb (k ++ [v]) ps p') := by
  obtain ⟨bb, bv, bl, off, rd, kv, qv, qs, hv⟩ := h
  obtain ⟨ka, kc, rfl⟩ := own_slice hv.own
  have c2 : w.cell? ⟨cb, 2, none⟩ = some (.slice ka k.length kc) := hv.cell 2
  have f2 := hv.free 2
  have Hv := Lib.hid hv
  have SZ := hv.fr.size
  have c0 : w.cell? ⟨cb, 0, none⟩ = some (.pointer (some ⟨bb, 0, none⟩)) := hv.cell 0
  have Ha := Lib.hid ha
  have yb := y.toNat_lt
  clear hv ha
  have eb := u64_back v hvi
  have ev : wrap64 v = v := IntWalk.wrap64_in _ hvi
  clear hvi
  go_enter Try.func91, Try.ntmps91
  go_wp2_with (first | (go_at_call 76; go_must (refine (ReadByte_y bb bv bl off rd _ y (D.code.drop p') Hv.out.buf (Hv.out.hp Ha.out)).mono ?_); rintro e w1 ⟨rfl, hb1, hf1⟩; have hv1 := Hv.out.past Ha.out (n := 1) (rfl) hb1 hf1; have Hv1 := Lib.hid hv1; have d2 : w1.cell? ⟨cb, 2, none⟩ = some (.slice ka k.length kc) := hv1.cell 2; have d6 : w1.cell? ⟨cb, 6, none⟩ = some (vi D.cfa) := hv1.cell 6; have d7 : w1.cell? ⟨cb, 7, none⟩ = some (vi D.base) := hv1.cell 7; have d5 : w1.cell? ⟨cb, 5, none⟩ = some (.int .u64 0) := hv1.cell 5; have x2 := hv1.free 2; have SZ1 := hv1.fr.size; clear hb1 hf1 hv1) | (at_builtin; go_must (refine wpList_app4 sliceI64 _ rfl _ _ rfl D.W.heap.size _ k.length (vis k) rfl (Hv1.out.ow (by first | exact ((Fr.refl [] _).alloc _) | exact ((Fr.refl [] _).alloc _).drew | exact ((Fr.refl [] _).drew).alloc _ | exact (((Fr.refl [] _).drewN _).alloc _) | exact ((((Fr.refl [] _).drewN _).alloc _).drew) | exact ((((Fr.refl [] _).drewN _).drew).alloc _))) (some ⟨w1.heap.size, 0, none⟩) 1 1 [_] rfl rfl (fun h => by cases h) (news_one rfl _ _) (by simp [Value.oneCell']) (by omega) (by decide) (by simp; omega) ?_); intro a8 c8' w8 ho8 hf8 hg8 ht8; have HP := Lib.hid (Hv1.out.pushed (by first | exact ((Fr.refl [] _).alloc _) | exact ((Fr.refl [] _).alloc _).drew | exact ((Fr.refl [] _).drew).alloc _ | exact (((Fr.refl [] _).drewN _).alloc _) | exact ((((Fr.refl [] _).drewN _).alloc _).drew) | exact ((((Fr.refl [] _).drewN _).drew).alloc _)) hf8 ht8 ho8); have hb8 := Hv1.out.app (by first | exact ((Fr.refl [] _).alloc _) | exact ((Fr.refl [] _).alloc _).drew | exact ((Fr.refl [] _).drew).alloc _ | exact (((Fr.refl [] _).drewN _).alloc _) | exact ((((Fr.refl [] _).drewN _).alloc _).drew) | exact ((((Fr.refl [] _).drewN _).drew).alloc _)) ht8; have s2 : w8.cell? ⟨cb, 2, none⟩ = some (.slice ka k.length kc) := blk_cell hb8 2; have z2 : w8.frozen? ⟨cb, 2, none⟩ = false := blk_free hb8 2; clear ho8 hf8 hg8 ht8 hb8))
  go_wp2_with fail
  go_ret
  exact ⟨rfl, HP.out⟩

set_option maxRecDepth 100000 in
set_option maxHeartbeats 4000000 in
theorem oconst2u_any (D : CxD) (cb : Nat) (w : World) (k : List Int) (ps : List LPiece) (p p' : Nat) (bs : List UInt8) (z : Nat) (h : CxR D cb w k ps p) (hk : k.length ≤ 1000000) (ha : AtC D p (bs) p') (hbl : bs.length = 2) (hz : leval bs = z) :
    Calls Try.prog 90 #[.int .u8 10, .pointer (some ⟨cb, 0, none⟩)] w (OkP D cb (k ++ [wrap64 (z : Int)]) ps p') := by
  obtain ⟨bb, bv, bl, off, rd, kv, qv, qs, hv⟩ := h
  obtain ⟨ka, kc, rfl⟩ := own_slice hv.own
  have c2 : w.cell? ⟨cb, 2, none⟩ = some (.slice ka k.length kc) := hv.cell 2
  have f2 := hv.free 2
  have Hv := Lib.hid hv
  have SZ := hv.fr.size
  have c0 : w.cell? ⟨cb, 0, none⟩ = some (.pointer (some ⟨bb, 0, none⟩)) := hv.cell 0
  have Ha := Lib.hid ha
  have Hrm : Hid (off + 2 ≤ bl.length) := by have := hv.room ha; rw [hbl] at this; exact this
  have Htk : Hid (leval ((bl.drop off).take 2) = z) := by show _ = _; rw [hv.tk ha hbl]; exact hz
  have Hbl := Lib.hid hbl
  clear hv ha hbl hz
  go_enter Try.func90, Try.ntmps90
  go_wp2_with (first | (go_at_call 124; go_must (refine (ReadUintRaw_2 true bb bv bl off _ ⟨rd, Hv.out.buf⟩ Hrm.out Hv.out.blt.1 Hv.out.blt.2).mono ?_); rw [Htk.out]; rintro e w1 ⟨rfl, ⟨rd1, hb1⟩, hf1⟩; have hv1 := Hv.out.past Ha.out (n := 2) (Hbl.out) hb1 hf1; have Hv1 := Lib.hid hv1; have d2 : w1.cell? ⟨cb, 2, none⟩ = some (.slice ka k.length kc) := hv1.cell 2; have d6 : w1.cell? ⟨cb, 6, none⟩ = some (vi D.cfa) := hv1.cell 6; have d7 : w1.cell? ⟨cb, 7, none⟩ = some (vi D.base) := hv1.cell 7; have d5 : w1.cell? ⟨cb, 5, none⟩ = some (.int .u64 0) := hv1.cell 5; have x2 := hv1.free 2; have SZ1 := hv1.fr.size; clear hb1 hf1 hv1) | (at_builtin; go_must (refine wpList_app4 sliceI64 _ rfl _ _ rfl D.W.heap.size _ k.length (vis k) rfl (Hv1.out.ow (by first | exact ((Fr.refl [] _).alloc _) | exact ((Fr.refl [] _).alloc _).drew | exact ((Fr.refl [] _).drew).alloc _ | exact (((Fr.refl [] _).drewN _).alloc _) | exact ((((Fr.refl [] _).drewN _).alloc _).drew) | exact ((((Fr.refl [] _).drewN _).drew).alloc _))) (some ⟨w1.heap.size, 0, none⟩) 1 1 [_] rfl rfl (fun h => by cases h) (news_one rfl _ _) (by simp [Value.oneCell']) (by omega) (by decide) (by simp; omega) ?_); intro a8 c8' w8 ho8 hf8 hg8 ht8; have HP := Lib.hid (Hv1.out.pushed (by first | exact ((Fr.refl [] _).alloc _) | exact ((Fr.refl [] _).alloc _).drew | exact ((Fr.refl [] _).drew).alloc _ | exact (((Fr.refl [] _).drewN _).alloc _) | exact ((((Fr.refl [] _).drewN _).alloc _).drew) | exact ((((Fr.refl [] _).drewN _).drew).alloc _)) hf8 ht8 ho8); have hb8 := Hv1.out.app (by first | exact ((Fr.refl [] _).alloc _) | exact ((Fr.refl [] _).alloc _).drew | exact ((Fr.refl [] _).drew).alloc _ | exact (((Fr.refl [] _).drewN _).alloc _) | exact ((((Fr.refl [] _).drewN _).alloc _).drew) | exact ((((Fr.refl [] _).drewN _).drew).alloc _)) ht8; have s2 : w8.cell? ⟨cb, 2, none⟩ = some (.slice ka k.length kc) := blk_cell hb8 2; have z2 : w8.frozen? ⟨cb, 2, none⟩ = false := blk_free hb8 2; clear ho8 hf8 hg8 ht8 hb8))
  go_wp2_with fail
  go_ret
  exact ⟨rfl, HP.out⟩

set_option maxRecDepth 100000 in
set_option maxHeartbeats 4000000 in
theorem oconst4u_any (D : CxD) (cb : Nat) (w : World) (k : List Int) (ps : List LPiece) (p p' : Nat) (bs : List UInt8) (z : Nat) (h : CxR D cb w k ps p) (hk : k.length ≤ 1000000) (ha : AtC D p (bs) p') (hbl : bs.length = 4) (hz : leval bs = z) :
    Calls Try.prog 90 #[.int .u8 12, .pointer (some ⟨cb, 0, none⟩)] w (OkP D cb (k ++ [wrap64 (z : Int)]) ps p') := by
  obtain ⟨bb, bv, bl, off, rd, kv, qv, qs, hv⟩ := h
  obtain ⟨ka, kc, rfl⟩ := own_slice hv.own
  have c2 : w.cell? ⟨cb, 2, none⟩ = some (.slice ka k.length kc) := hv.cell 2
  have f2 := hv.free 2
  have Hv := Lib.hid hv
  have SZ := hv.fr.size
  have c0 : w.cell? ⟨cb, 0, none⟩ = some (.pointer (some ⟨bb, 0, none⟩)) := hv.cell 0
  have Ha := Lib.hid ha
  have Hrm : Hid (off + 4 ≤ bl.length) := by have := hv.room ha; rw [hbl] at this; exact this
  have Htk : Hid (leval ((bl.drop off).take 4) = z) := by show _ = _; rw [hv.tk ha hbl]; exact hz
  have Hbl := Lib.hid hbl
  clear hv ha hbl hz
  go_enter Try.func90, Try.ntmps90
  go_wp2_with (first | (go_at_call 124; go_must (refine (ReadUintRaw_4 true bb bv bl off _ ⟨rd, Hv.out.buf⟩ Hrm.out Hv.out.blt.1 Hv.out.blt.2).mono ?_); rw [Htk.out]; rintro e w1 ⟨rfl, ⟨rd1, hb1⟩, hf1⟩; have hv1 := Hv.out.past Ha.out (n := 4) (Hbl.out) hb1 hf1; have Hv1 := Lib.hid hv1; have d2 : w1.cell? ⟨cb, 2, none⟩ = some (.slice ka k.length kc) := hv1.cell 2; have d6 : w1.cell? ⟨cb, 6, none⟩ = some (vi D.cfa) := hv1.cell 6; have d7 : w1.cell? ⟨cb, 7, none⟩ = some (vi D.base) := hv1.cell 7; have d5 : w1.cell? ⟨cb, 5, none⟩ = some (.int .u64 0) := hv1.cell 5; have x2 := hv1.free 2; have SZ1 := hv1.fr.size; clear hb1 hf1 hv1) | (at_builtin; go_must (refine wpList_app4 sliceI64 _ rfl _ _ rfl D.W.heap.size _ k.length (vis k) rfl (Hv1.out.ow (by first | exact ((Fr.refl [] _).alloc _) | exact ((Fr.refl [] _).alloc _).drew | exact ((Fr.refl [] _).drew).alloc _ | exact (((Fr.refl [] _).drewN _).alloc _) | exact ((((Fr.refl [] _).drewN _).alloc _).drew) | exact ((((Fr.refl [] _).drewN _).drew).alloc _))) (some ⟨w1.heap.size, 0, none⟩) 1 1 [_] rfl rfl (fun h => by cases h) (news_one rfl _ _) (by simp [Value.oneCell']) (by omega) (by decide) (by simp; omega) ?_); intro a8 c8' w8 ho8 hf8 hg8 ht8; have HP := Lib.hid (Hv1.out.pushed (by first | exact ((Fr.refl [] _).alloc _) | exact ((Fr.refl [] _).alloc _).drew | exact ((Fr.refl [] _).drew).alloc _ | exact (((Fr.refl [] _).drewN _).alloc _) | exact ((((Fr.refl [] _).drewN _).alloc _).drew) | exact ((((Fr.refl [] _).drewN _).drew).alloc _)) hf8 ht8 ho8); have hb8 := Hv1.out.app (by first | exact ((Fr.refl [] _).alloc _) | exact ((Fr.refl [] _).alloc _).drew | exact ((Fr.refl [] _).drew).alloc _ | exact (((Fr.refl [] _).drewN _).alloc _) | exact ((((Fr.refl [] _).drewN _).alloc _).drew) | exact ((((Fr.refl [] _).drewN _).drew).alloc _)) ht8; have s2 : w8.cell? ⟨cb, 2, none⟩ = some (.slice ka k.length kc) := blk_cell hb8 2; have z2 : w8.frozen? ⟨cb, 2, none⟩ = false := blk_free hb8 2; clear ho8 hf8 hg8 ht8 hb8))
  go_wp2_with fail
  go_ret
  exact ⟨rfl, HP.out⟩

set_option maxRecDepth 100000 in
set_option maxHeartbeats 4000000 in
theorem oconst8u_any (D : CxD) (cb : Nat) (w : World) (k : List Int) (ps : List LPiece) (p p' : Nat) (bs : List UInt8) (z : Nat) (h : CxR D cb w k ps p) (hk : k.length ≤ 1000000) (ha : AtC D p (bs) p') (hbl : bs.length = 8) (hz : leval bs = z) :
    Calls Try.prog 90 #[.int .u8 14, .pointer (some ⟨cb, 0, none⟩)] w (OkP D cb (k ++ [wrap64 (z : Int)]) ps p') := by
  obtain ⟨bb, bv, bl, off, rd, kv, qv, qs, hv⟩ := h
  obtain ⟨ka, kc, rfl⟩ := own_slice hv.own
  have c2 : w.cell? ⟨cb, 2, none⟩ = some (.slice ka k.length kc) := hv.cell 2
  have f2 := hv.free 2
  have Hv := Lib.hid hv
  have SZ := hv.fr.size
  have c0 : w.cell? ⟨cb, 0, none⟩ = some (.pointer (some ⟨bb, 0, none⟩)) := hv.cell 0
  have Ha := Lib.hid ha
  have Hrm : Hid (off + 8 ≤ bl.length) := by have := hv.room ha; rw [hbl] at this; exact this
  have Htk : Hid (leval ((bl.drop off).take 8) = z) := by show _ = _; rw [hv.tk ha hbl]; exact hz
  have Hbl := Lib.hid hbl
  clear hv ha hbl hz
  go_enter Try.func90, Try.ntmps90
  go_wp2_with (first | (go_at_call 124; go_must (refine (ReadUintRaw_8 true bb bv bl off _ ⟨rd, Hv.out.buf⟩ Hrm.out Hv.out.blt.1 Hv.out.blt.2).mono ?_); rw [Htk.out]; rintro e w1 ⟨rfl, ⟨rd1, hb1⟩, hf1⟩; have hv1 := Hv.out.past Ha.out (n := 8) (Hbl.out) hb1 hf1; have Hv1 := Lib.hid hv1; have d2 : w1.cell? ⟨cb, 2, none⟩ = some (.slice ka k.length kc) := hv1.cell 2; have d6 : w1.cell? ⟨cb, 6, none⟩ = some (vi D.cfa) := hv1.cell 6; have d7 : w1.cell? ⟨cb, 7, none⟩ = some (vi D.base) := hv1.cell 7; have d5 : w1.cell? ⟨cb, 5, none⟩ = some (.int .u64 0) := hv1.cell 5; have x2 := hv1.free 2; have SZ1 := hv1.fr.size; clear hb1 hf1 hv1) | (at_builtin; go_must (refine wpList_app4 sliceI64 _ rfl _ _ rfl D.W.heap.size _ k.length (vis k) rfl (Hv1.out.ow (by first | exact ((Fr.refl [] _).alloc _) | exact ((Fr.refl [] _).alloc _).drew | exact ((Fr.refl [] _).drew).alloc _ | exact (((Fr.refl [] _).drewN _).alloc _) | exact ((((Fr.refl [] _).drewN _).alloc _).drew) | exact ((((Fr.refl [] _).drewN _).drew).alloc _))) (some ⟨w1.heap.size, 0, none⟩) 1 1 [_] rfl rfl (fun h => by cases h) (news_one rfl _ _) (by simp [Value.oneCell']) (by omega) (by decide) (by simp; omega) ?_); intro a8 c8' w8 ho8 hf8 hg8 ht8; have HP := Lib.hid (Hv1.out.pushed (by first | exact ((Fr.refl [] _).alloc _) | exact ((Fr.refl [] _).alloc _).drew | exact ((Fr.refl [] _).drew).alloc _ | exact (((Fr.refl [] _).drewN _).alloc _) | exact ((((Fr.refl [] _).drewN _).alloc _).drew) | exact ((((Fr.refl [] _).drewN _).drew).alloc _)) hf8 ht8 ho8); have hb8 := Hv1.out.app (by first | exact ((Fr.refl [] _).alloc _) | exact ((Fr.refl [] _).alloc _).drew | exact ((Fr.refl [] _).drew).alloc _ | exact (((Fr.refl [] _).drewN _).alloc _) | exact ((((Fr.refl [] _).drewN _).alloc _).drew) | exact ((((Fr.refl [] _).drewN _).drew).alloc _)) ht8; have s2 : w8.cell? ⟨cb, 2, none⟩ = some (.slice ka k.length kc) := blk_cell hb8 2; have z2 : w8.frozen? ⟨cb, 2, none⟩ = false := blk_free hb8 2; clear ho8 hf8 hg8 ht8 hb8))
  go_wp2_with fail
  go_ret
  exact ⟨rfl, HP.out⟩

set_option maxRecDepth 100000 in
set_option maxHeartbeats 4000000 in
theorem oconst2s_any (D : CxD) (cb : Nat) (w : World) (k : List Int) (ps : List LPiece) (p p' : Nat) (bs : List UInt8) (z : Nat) (v : Int) (h : CxR D cb w k ps p) (hk : k.length ≤ 1000000) (ha : AtC D p (bs) p') (hbl : bs.length = 2) (hz : leval bs = z) (hv2 : IntKind.i16.wrap (z : Int) = v) (hvi : i64 v) :
    Calls Try.prog 91 #[.int .u8 11, .pointer (some ⟨cb, 0, none⟩)] w (OkP D cb (k ++ [v]) ps p') := by
  obtain ⟨bb, bv, bl, off, rd, kv, qv, qs, hv⟩ := h
  obtain ⟨ka, kc, rfl⟩ := own_slice hv.own
  have c2 : w.cell? ⟨cb, 2, none⟩ = some (.slice ka k.length kc) := hv.cell 2
  have f2 := hv.free 2
  have Hv := Lib.hid hv
  have SZ := hv.fr.size
  have c0 : w.cell? ⟨cb, 0, none⟩ = some (.pointer (some ⟨bb, 0, none⟩)) := hv.cell 0
  have Ha := Lib.hid ha
  have Hrm : Hid (off + 2 ≤ bl.length) := by have := hv.room ha; rw [hbl] at this; exact this
  have Htk : Hid (leval ((bl.drop off).take 2) = z) := by show _ = _; rw [hv.tk ha hbl]; exact hz
  have Hbl := Lib.hid hbl
  clear hv ha hbl hz
  have eb := u64_back v hvi
  have ev : wrap64 v = v := IntWalk.wrap64_in _ hvi
  clear hvi
  go_enter Try.func91, Try.ntmps91
  go_wp2_with (first | (go_at_call 124; go_must (refine (ReadUintRaw_2 true bb bv bl off _ ⟨rd, Hv.out.buf⟩ Hrm.out Hv.out.blt.1 Hv.out.blt.2).mono ?_); rw [Htk.out]; rintro e w1 ⟨rfl, ⟨rd1, hb1⟩, hf1⟩; have hv1 := Hv.out.past Ha.out (n := 2) (Hbl.out) hb1 hf1; have Hv1 := Lib.hid hv1; have d2 : w1.cell? ⟨cb, 2, none⟩ = some (.slice ka k.length kc) := hv1.cell 2; have d6 : w1.cell? ⟨cb, 6, none⟩ = some (vi D.cfa) := hv1.cell 6; have d7 : w1.cell? ⟨cb, 7, none⟩ = some (vi D.base) := hv1.cell 7; have d5 : w1.cell? ⟨cb, 5, none⟩ = some (.int .u64 0) := hv1.cell 5; have x2 := hv1.free 2; have SZ1 := hv1.fr.size; clear hb1 hf1 hv1) | (at_builtin; go_must (refine wpList_app4 sliceI64 _ rfl _ _ rfl D.W.heap.size _ k.length (vis k) rfl (Hv1.out.ow (by first | exact ((Fr.refl [] _).alloc _) | exact ((Fr.refl [] _).alloc _).drew | exact ((Fr.refl [] _).drew).alloc _ | exact (((Fr.refl [] _).drewN _).alloc _) | exact ((((Fr.refl [] _).drewN _).alloc _).drew) | exact ((((Fr.refl [] _).drewN _).drew).alloc _))) (some ⟨w1.heap.size, 0, none⟩) 1 1 [_] rfl rfl (fun h => by cases h) (news_one rfl _ _) (by simp [Value.oneCell']) (by omega) (by decide) (by simp; omega) ?_); intro a8 c8' w8 ho8 hf8 hg8 ht8; have HP := Lib.hid (Hv1.out.pushed (by first | exact ((Fr.refl [] _).alloc _) | exact ((Fr.refl [] _).alloc _).drew | exact ((Fr.refl [] _).drew).alloc _ | exact (((Fr.refl [] _).drewN _).alloc _) | exact ((((Fr.refl [] _).drewN _).alloc _).drew) | exact ((((Fr.refl [] _).drewN _).drew).alloc _)) hf8 ht8 ho8); have hb8 := Hv1.out.app (by first | exact ((Fr.refl [] _).alloc _) | exact ((Fr.refl [] _).alloc _).drew | exact ((Fr.refl [] _).drew).alloc _ | exact (((Fr.refl [] _).drewN _).alloc _) | exact ((((Fr.refl [] _).drewN _).alloc _).drew) | exact ((((Fr.refl [] _).drewN _).drew).alloc _)) ht8; have s2 : w8.cell? ⟨cb, 2, none⟩ = some (.slice ka k.length kc) := blk_cell hb8 2; have z2 : w8.frozen? ⟨cb, 2, none⟩ = false := blk_free hb8 2; clear ho8 hf8 hg8 ht8 hb8))
  go_wp2_with fail
  go_ret
  exact ⟨rfl, HP.out⟩

set_option maxRecDepth 100000 in
set_option maxHeartbeats 4000000 in
theorem oconst4s_any (D : CxD) (cb : Nat) (w : World) (k : List Int) (ps : List LPiece) (p p' : Nat) (bs : List UInt8) (z : Nat) (v : Int) (h : CxR D cb w k ps p) (hk : k.length ≤ 1000000) (ha : AtC D p (bs) p') (hbl : bs.length = 4) (hz : leval bs = z) (hv2 : IntKind.i32.wrap (z : Int) = v) (hvi : i64 v) :
    Calls Try.prog 91 #[.int .u8 13, .pointer (some ⟨cb, 0, none⟩)] w (OkP D cb (k ++ [v]) ps p') := by
  obtain ⟨bb, bv, bl, off, rd, kv, qv, qs, hv⟩ := h
  obtain ⟨ka, kc, rfl⟩ := own_slice hv.own
  have c2 : w.cell? ⟨cb, 2, none⟩ = some (.slice ka k.length kc) := hv.cell 2
  have f2 := hv.free 2
  have Hv := Lib.hid hv
  have SZ := hv.fr.size
  have c0 : w.cell? ⟨cb, 0, none⟩ = some (.pointer (some ⟨bb, 0, none⟩)) := hv.cell 0
  have Ha := Lib.hid ha
  have Hrm : Hid (off + 4 ≤ bl.length) := by have := hv.room ha; rw [hbl] at this; exact this
  have Htk : Hid (leval ((bl.drop off).take 4) = z) := by show _ = _; rw [hv.tk ha hbl]; exact hz
  have Hbl := Lib.hid hbl
  clear hv ha hbl hz
  have eb := u64_back v hvi
  have ev : wrap64 v = v := IntWalk.wrap64_in _ hvi
  clear hvi
  go_enter Try.func91, Try.ntmps91
  go_wp2_with (first | (go_at_call 124; go_must (refine (ReadUintRaw_4 true bb bv bl off _ ⟨rd, Hv.out.buf⟩ Hrm.out Hv.out.blt.1 Hv.out.blt.2).mono ?_); rw [Htk.out]; rintro e w1 ⟨rfl, ⟨rd1, hb1⟩, hf1⟩; have hv1 := Hv.out.past Ha.out (n := 4) (Hbl.out) hb1 hf1; have Hv1 := Lib.hid hv1; have d2 : w1.cell? ⟨cb, 2, none⟩ = some (.slice ka k.length kc) := hv1.cell 2; have d6 : w1.cell? ⟨cb, 6, none⟩ = some (vi D.cfa) := hv1.cell 6; have d7 : w1.cell? ⟨cb, 7, none⟩ = some (vi D.base) := hv1.cell 7; have d5 : w1.cell? ⟨cb, 5, none⟩ = some (.int .u64 0) := hv1.cell 5; have x2 := hv1.free 2; have SZ1 := hv1.fr.size; clear hb1 hf1 hv1) | (at_builtin; go_must (refine wpList_app4 sliceI64 _ rfl _ _ rfl D.W.heap.size _ k.length (vis k) rfl (Hv1.out.ow (by first | exact ((Fr.refl [] _).alloc _) | exact ((Fr.refl [] _).alloc _).drew | exact ((Fr.refl [] _).drew).alloc _ | exact (((Fr.refl [] _).drewN _).alloc _) | exact ((((Fr.refl [] _).drewN _).alloc _).drew) | exact ((((Fr.refl [] _).drewN _).drew).alloc _))) (some ⟨w1.heap.size, 0, none⟩) 1 1 [_] rfl rfl (fun h => by cases h) (news_one rfl _ _) (by simp [Value.oneCell']) (by omega) (by decide) (by simp; omega) ?_); intro a8 c8' w8 ho8 hf8 hg8 ht8; have HP := Lib.hid (Hv1.out.pushed (by first | exact ((Fr.refl [] _).alloc _) | exact ((Fr.refl [] _).alloc _).drew | exact ((Fr.refl [] _).drew).alloc _ | exact (((Fr.refl [] _).drewN _).alloc _) | exact ((((Fr.refl [] _).drewN _).alloc _).drew) | exact ((((Fr.refl [] _).drewN _).drew).alloc _)) hf8 ht8 ho8); have hb8 := Hv1.out.app (by first | exact ((Fr.refl [] _).alloc _) | exact ((Fr.refl [] _).alloc _).drew | exact ((Fr.refl [] _).drew).alloc _ | exact (((Fr.refl [] _).drewN _).alloc _) | exact ((((Fr.refl [] _).drewN _).alloc _).drew) | exact ((((Fr.refl [] _).drewN _).drew).alloc _)) ht8; have s2 : w8.cell? ⟨cb, 2, none⟩ = some (.slice ka k.length kc) := blk_cell hb8 2; have z2 : w8.frozen? ⟨cb, 2, none⟩ = false := blk_free hb8 2; clear ho8 hf8 hg8 ht8 hb8))
  go_wp2_with fail
  go_ret
  exact ⟨rfl, HP.out⟩

set_option maxRecDepth 100000 in
set_option maxHeartbeats 4000000 in
theorem oconst8s_any (D : CxD) (cb : Nat) (w : World) (k : List Int) (ps : List LPiece) (p p' : Nat) (bs : List UInt8) (z : Nat) (h : CxR D cb w k ps p) (hk : k.length ≤ 1000000) (ha : AtC D p (bs) p') (hbl : bs.length = 8) (hz : leval bs = z) :
    Calls Try.prog 91 #[.int .u8 15, .pointer (some ⟨cb, 0, none⟩)] w (OkP D cb (k ++ [wrap64 (z : Int)]) ps p') := by
  obtain ⟨bb, bv, bl, off, rd, kv, qv, qs, hv⟩ := h
  obtain ⟨ka, kc, rfl⟩ := own_slice hv.own
  have c2 : w.cell? ⟨cb, 2, none⟩ = some (.slice ka k.length kc) := hv.cell 2
  have f2 := hv.free 2
  have Hv := Lib.hid hv
  have SZ := hv.fr.size
  have c0 : w.cell? ⟨cb, 0, none⟩ = some (.pointer (some ⟨bb, 0, none⟩)) := hv.cell 0
  have Ha := Lib.hid ha
  have Hrm : Hid (off + 8 ≤ bl.length) := by have := hv.room ha; rw [hbl] at this; exact this
  have Htk : Hid (leval ((bl.drop off).take 8) = z) := by show _ = _; rw [hv.tk ha hbl]; exact hz
  have Hbl := Lib.hid hbl
  clear hv ha hbl hz
  go_enter Try.func91, Try.ntmps91
  go_wp2_with (first | (go_at_call 124; go_must (refine (ReadUintRaw_8 true bb bv bl off _ ⟨rd, Hv.out.buf⟩ Hrm.out Hv.out.blt.1 Hv.out.blt.2).mono ?_); rw [Htk.out]; rintro e w1 ⟨rfl, ⟨rd1, hb1⟩, hf1⟩; have hv1 := Hv.out.past Ha.out (n := 8) (Hbl.out) hb1 hf1; have Hv1 := Lib.hid hv1; have d2 : w1.cell? ⟨cb, 2, none⟩ = some (.slice ka k.length kc) := hv1.cell 2; have d6 : w1.cell? ⟨cb, 6, none⟩ = some (vi D.cfa) := hv1.cell 6; have d7 : w1.cell? ⟨cb, 7, none⟩ = some (vi D.base) := hv1.cell 7; have d5 : w1.cell? ⟨cb, 5, none⟩ = some (.int .u64 0) := hv1.cell 5; have x2 := hv1.free 2; have SZ1 := hv1.fr.size; clear hb1 hf1 hv1) | (at_builtin; go_must (refine wpList_app4 sliceI64 _ rfl _ _ rfl D.W.heap.size _ k.length (vis k) rfl (Hv1.out.ow (by first | exact ((Fr.refl [] _).alloc _) | exact ((Fr.refl [] _).alloc _).drew | exact ((Fr.refl [] _).drew).alloc _ | exact (((Fr.refl [] _).drewN _).alloc _) | exact ((((Fr.refl [] _).drewN _).alloc _).drew) | exact ((((Fr.refl [] _).drewN _).drew).alloc _))) (some ⟨w1.heap.size, 0, none⟩) 1 1 [_] rfl rfl (fun h => by cases h) (news_one rfl _ _) (by simp [Value.oneCell']) (by omega) (by decide) (by simp; omega) ?_); intro a8 c8' w8 ho8 hf8 hg8 ht8; have HP := Lib.hid (Hv1.out.pushed (by first | exact ((Fr.refl [] _).alloc _) | exact ((Fr.refl [] _).alloc _).drew | exact ((Fr.refl [] _).drew).alloc _ | exact (((Fr.refl [] _).drewN _).alloc _) | exact ((((Fr.refl [] _).drewN _).alloc _).drew) | exact ((((Fr.refl [] _).drewN _).drew).alloc _)) hf8 ht8 ho8); have hb8 := Hv1.out.app (by first | exact ((Fr.refl [] _).alloc _) | exact ((Fr.refl [] _).alloc _).drew | exact ((Fr.refl [] _).drew).alloc _ | exact (((Fr.refl [] _).drewN _).alloc _) | exact ((((Fr.refl [] _).drewN _).alloc _).drew) | exact ((((Fr.refl [] _).drewN _).drew).alloc _)) ht8; have s2 : w8.cell? ⟨cb, 2, none⟩ = some (.slice ka k.length kc) := blk_cell hb8 2; have z2 : w8.frozen? ⟨cb, 2, none⟩ = false := blk_free hb8 2; clear ho8 hf8 hg8 ht8 hb8))
  go_wp2_with fail
  go_ret
  exact ⟨rfl, HP.out⟩

set_option maxRecDepth 100000 in
set_option maxHeartbeats 4000000 in
theorem oframebase_any (D : CxD) (cb : Nat) (w : World) (k : List Int) (ps : List LPiece) (p p' : Nat) (n : Int) (h : CxR D cb w k ps p) (hk : k.length ≤ 1000000) (ha : AtC D p (sleb n) p') (hn : i64 n) :
    Calls Try.prog 107 #[.int .u8 145, .pointer (some ⟨cb, 0, none⟩)] w (OkP D cb (k ++ [wrap64 (D.base + n)]) ps p') := by
  obtain ⟨bb, bv, bl, off, rd, kv, qv, qs, hv⟩ := h
  obtain ⟨ka, kc, rfl⟩ := own_slice hv.own
  have c2 : w.cell? ⟨cb, 2, none⟩ = some (.slice ka k.length kc) := hv.cell 2
  have f2 := hv.free 2
  have Hv := Lib.hid hv
  have SZ := hv.fr.size
  have c0 : w.cell? ⟨cb, 0, none⟩ = some (.pointer (some ⟨bb, 0, none⟩)) := hv.cell 0
  have Ha := Lib.hid ha
  have Hun : Hid (wrap64 (sval (sleb n)) = n) := by show _ = _; rw [sval_sleb]; exact IntWalk.wrap64_in _ hn
  have Hn := Lib.hid hn
  clear hv ha hn
  have hw1 : ∀ n, IntKind.i64.wrap n = wrap64 n := IntWalk.i64_left
  go_enter Try.func107, Try.ntmps107
  go_wp2_with (go_at_call 39; go_must (refine (lDecS_any bb bv bl off rd _ Hv.out.buf (sleb n) (D.code.drop p') (Hv.out.hp Ha.out) (sleb_ended n) (sleb_le10 Hn.out.1 Hn.out.2)).mono ?_); rw [Hun.out]; rintro e w1 ⟨rfl, hb1, hf1⟩; have hv1 := Hv.out.past Ha.out (n := (sleb n).length) (rfl) hb1 hf1; have Hv1 := Lib.hid hv1; have d2 : w1.cell? ⟨cb, 2, none⟩ = some (.slice ka k.length kc) := hv1.cell 2; have d6 : w1.cell? ⟨cb, 6, none⟩ = some (vi D.cfa) := hv1.cell 6; have d7 : w1.cell? ⟨cb, 7, none⟩ = some (vi D.base) := hv1.cell 7; have d5 : w1.cell? ⟨cb, 5, none⟩ = some (.int .u64 0) := hv1.cell 5; have x2 := hv1.free 2; have SZ1 := hv1.fr.size; have d2a : ∀ o, (w1.alloc o).drew.cell? ⟨cb, 2, none⟩ = some (.slice ka k.length kc) := (fun o => (((Fr.refl [] w1).alloc o).drew).cell d2 (by simp)); clear hb1 hf1 hv1)
  go_region_law ((go_must (refine step_app4 sliceI64 _ (by rfl) _ _ (by rfl) D.W.heap.size _ k.length (vis k) (by rfl) (Hv1.out.ow (by first | exact ((Fr.refl [] _).alloc _) | exact ((Fr.refl [] _).alloc _).drew | exact ((Fr.refl [] _).drew).alloc _ | exact (((Fr.refl [] _).drewN _).alloc _) | exact ((((Fr.refl [] _).drewN _).alloc _).drew) | exact ((((Fr.refl [] _).drewN _).drew).alloc _))) (some ⟨w1.heap.size, 0, none⟩) 1 1 [_] (by rfl) (by rfl) (fun h => by cases h) (by first | exact news_blk (blk_new w1 _) | exact news_blk (blk_new w1.drew _)) (by simp [Value.oneCell']) (by omega) (by decide) (by simp; omega) ?_); intro a8 c8' w8 ho8 hf8 hg8 ht8; have HP := Lib.hid (Hv1.out.pushed (by first | exact ((Fr.refl [] _).alloc _) | exact ((Fr.refl [] _).alloc _).drew | exact ((Fr.refl [] _).drew).alloc _ | exact (((Fr.refl [] _).drewN _).alloc _) | exact ((((Fr.refl [] _).drewN _).alloc _).drew) | exact ((((Fr.refl [] _).drewN _).drew).alloc _)) hf8 ht8 ho8); have hb8 := Hv1.out.app (by first | exact ((Fr.refl [] _).alloc _) | exact ((Fr.refl [] _).alloc _).drew | exact ((Fr.refl [] _).drew).alloc _ | exact (((Fr.refl [] _).drewN _).alloc _) | exact ((((Fr.refl [] _).drewN _).alloc _).drew) | exact ((((Fr.refl [] _).drewN _).drew).alloc _)) ht8; have s2 : w8.cell? ⟨cb, 2, none⟩ = some (.slice ka k.length kc) := blk_cell hb8 2; have z2 : w8.frozen? ⟨cb, 2, none⟩ = false := blk_free hb8 2; clear ho8 hf8 hg8 ht8 hb8))
  all_goals
    go_wp2_with fail
    go_ret
    exact ⟨rfl, HP.out⟩

set_option maxRecDepth 100000 in
set_option maxHeartbeats 4000000 in
theorem opick_any (D : CxD) (cb : Nat) (w : World) (k : List Int) (ps : List LPiece) (p p' : Nat) (y : UInt8) (n : Nat) (h : CxR D cb w k ps p) (hk : k.length ≤ 1000000) (ha : AtC D p [y] p') (hyn : y.toNat = n) (hn : n < k.length) :
    Calls Try.prog 96 #[.int .u8 21, .pointer (some ⟨cb, 0, none⟩)] w (OkP D cb (k ++ [k[k.length - 1 - n]'(by omega)]) ps p') := by
  have yb := y.toNat_lt
  have Hyn := Lib.hid hyn
  rw [hyn] at yb
  obtain ⟨bb, bv, bl, off, rd, kv, qv, qs, hv⟩ := h
  obtain ⟨g, kc, rfl, hk1, hk2, hc⟩ := own_vis hv.own (by omega)
  have c2 : w.cell? ⟨cb, 2, none⟩ = some (.slice (some ⟨g, 0, none⟩) k.length kc) := hv.cell 2
  have f2 := hv.free 2
  have c0 : w.cell? ⟨cb, 0, none⟩ = some (.pointer (some ⟨bb, 0, none⟩)) := hv.cell 0
  have SZ := hv.fr.size
  unfold maxLen at hk2
  have cx := hc (k.length - 1 - n) (by omega)
  generalize k[k.length - 1 - n]'(by omega) = y2 at *
  obtain ⟨m, hm⟩ : ∃ m, k.length - 1 - n = m := ⟨_, rfl⟩
  rw [hm] at cx
  have e1 : (k.length : Int) - 1 - (n : Int) = (m : Int) := by omega
  have e2 : (m : Int) < (k.length : Int) := by omega
  have e3 : (0 : Int) ≤ (m : Int) := by omega
  have e4 : ¬ ((k.length : Int) ≤ (m : Int)) := by omega
  have e5 : ¬ ((m : Int) < 0) := by omega
  have e6 : decide ((k.length : Int) ≤ (m : Int)) = false := by simpa using e4
  have Hv := Lib.hid hv
  clear hm hc
  clear hyn
  have Ha := Lib.hid ha
  clear hv ha
  go_enter Try.func96, Try.ntmps96
  go_wp2_with (go_at_call 76; go_must (refine (ReadByte_y bb bv bl off rd _ y (D.code.drop p') Hv.out.buf (Hv.out.hp Ha.out)).mono ?_); rw [show vb y = .int .u8 (n : Int) by rw [← Hyn.out]]; rintro e w1 ⟨rfl, hb1, hf1⟩; have hv1 := Hv.out.past Ha.out (n := 1) (rfl) hb1 hf1; have Hv1 := Lib.hid hv1; have d2 : w1.cell? ⟨cb, 2, none⟩ = some (.slice (some ⟨g, 0, none⟩) k.length kc) := hv1.cell 2; have d6 : w1.cell? ⟨cb, 6, none⟩ = some (vi D.cfa) := hv1.cell 6; have d7 : w1.cell? ⟨cb, 7, none⟩ = some (vi D.base) := hv1.cell 7; have d5 : w1.cell? ⟨cb, 5, none⟩ = some (.int .u64 0) := hv1.cell 5; have x2 := hv1.free 2; have SZ1 := hv1.fr.size; have d2a : ∀ o, (w1.alloc o).drew.cell? ⟨cb, 2, none⟩ = some (.slice (some ⟨g, 0, none⟩) k.length kc) := (fun o => (((Fr.refl [] w1).alloc o).drew).cell d2 (by simp)); have dx : w1.cell? ⟨g, m, none⟩ = some (vi y2) := hf1.cell cx (by have := Hv.out.kv_ne.2; simp [Value.ownBlock] at this; simpa using this); clear hb1 hf1 hv1)
  go_region_law ((go_must (refine step_app4 sliceI64 _ (by rfl) _ _ (by rfl) D.W.heap.size _ k.length (vis k) (by rfl) (Hv1.out.ow (by first | exact ((Fr.refl [] _).alloc _) | exact ((Fr.refl [] _).alloc _).drew | exact ((Fr.refl [] _).drew).alloc _ | exact (((Fr.refl [] _).drewN _).alloc _) | exact ((((Fr.refl [] _).drewN _).alloc _).drew) | exact ((((Fr.refl [] _).drewN _).drew).alloc _))) (some ⟨w1.heap.size, 0, none⟩) 1 1 [_] (by rfl) (by rfl) (fun h => by cases h) (by first | exact news_blk (blk_new w1 _) | exact news_blk (blk_new w1.drew _)) (by simp [Value.oneCell']) (by omega) (by decide) (by simp; omega) ?_); intro a8 c8' w8 ho8 hf8 hg8 ht8; have HP := Lib.hid (Hv1.out.pushed (by first | exact ((Fr.refl [] _).alloc _) | exact ((Fr.refl [] _).alloc _).drew | exact ((Fr.refl [] _).drew).alloc _ | exact (((Fr.refl [] _).drewN _).alloc _) | exact ((((Fr.refl [] _).drewN _).alloc _).drew) | exact ((((Fr.refl [] _).drewN _).drew).alloc _)) hf8 ht8 ho8); have hb8 := Hv1.out.app (by first | exact ((Fr.refl [] _).alloc _) | exact ((Fr.refl [] _).alloc _).drew | exact ((Fr.refl [] _).drew).alloc _ | exact (((Fr.refl [] _).drewN _).alloc _) | exact ((((Fr.refl [] _).drewN _).alloc _).drew) | exact ((((Fr.refl [] _).drewN _).drew).alloc _)) ht8; have s2 : w8.cell? ⟨cb, 2, none⟩ = some (.slice (some ⟨g, 0, none⟩) k.length kc) := blk_cell hb8 2; have z2 : w8.frozen? ⟨cb, 2, none⟩ = false := blk_free hb8 2; clear ho8 hf8 hg8 ht8 hb8))
  all_goals
    go_wp2_with fail
    go_ret
    exact ⟨rfl, HP.out⟩

set_option maxRecDepth 100000 in
set_option maxHeartbeats 4000000 in
theorem opick_err (D : CxD) (cb : Nat) (w : World) (k : List Int) (ps : List LPiece) (p p' : Nat) (y : UInt8) (n : Nat) (h : CxR D cb w k ps p) (hk : k.length ≤ 1000000) (ha : AtC D p [y] p') (hyn : y.toNat = n) (hn : k.length ≤ n) :
    Calls Try.prog 96 #[.int .u8 21, .pointer (some ⟨cb, 0, none⟩)] w (ErrP D) := by

  have yb := y.toNat_lt
  have Hyn := Lib.hid hyn
  rw [hyn] at yb
  clear hyn
  obtain ⟨bb, bv, bl, off, rd, kv, qv, qs, hv⟩ := h
  obtain ⟨ka, kc, rfl⟩ := own_slice hv.own
  have c2 : w.cell? ⟨cb, 2, none⟩ = some (.slice ka k.length kc) := hv.cell 2
  have c0 : w.cell? ⟨cb, 0, none⟩ = some (.pointer (some ⟨bb, 0, none⟩)) := hv.cell 0
  have Hv := Lib.hid hv
  have e0 : (k.length : Int) - 1 - (n : Int) < 0 := by omega
  have Ha := Lib.hid ha
  clear hv ha
  go_enter Try.func96, Try.ntmps96
  go_wp2_with (go_at_call 76; go_must (refine (ReadByte_y bb bv bl off rd _ y (D.code.drop p') Hv.out.buf (Hv.out.hp Ha.out)).mono ?_); rw [show vb y = .int .u8 (n : Int) by rw [← Hyn.out]]; rintro e w1 ⟨rfl, hb1, hf1⟩; have hv1 := Hv.out.past Ha.out (n := 1) (rfl) hb1 hf1; have Hv1 := Lib.hid hv1; have d2 : w1.cell? ⟨cb, 2, none⟩ = some (.slice ka k.length kc) := hv1.cell 2; have d6 : w1.cell? ⟨cb, 6, none⟩ = some (vi D.cfa) := hv1.cell 6; have d7 : w1.cell? ⟨cb, 7, none⟩ = some (vi D.base) := hv1.cell 7; have d5 : w1.cell? ⟨cb, 5, none⟩ = some (.int .u64 0) := hv1.cell 5; have x2 := hv1.free 2; have SZ1 := hv1.fr.size; clear hb1 hf1 hv1)
  go_ret
  exact ⟨.inl ⟨_, _, rfl⟩, Hv1.out.fr⟩

set_option maxRecDepth 100000 in
set_option maxHeartbeats 4000000 in
theorem oover_any (D : CxD) (cb : Nat) (w : World) (k : List Int) (ps : List LPiece) (p : Nat) (h : CxR D cb w k ps p) (hk : k.length ≤ 1000000) (hn : 1 < k.length) :
    Calls Try.prog 96 #[.int .u8 20, .pointer (some ⟨cb, 0, none⟩)] w (OkP D cb (k ++ [k[k.length - 1 - 1]'(by omega)]) ps p) := by
  obtain ⟨n, hn1⟩ : ∃ n, n = 1 := ⟨1, rfl⟩
  have eg : k[k.length - 1 - 1]'(by omega) = k[k.length - 1 - n]'(by omega) := by simp [hn1]
  rw [eg]
  clear eg
  obtain ⟨bb, bv, bl, off, rd, kv, qv, qs, hv⟩ := h
  obtain ⟨g, kc, rfl, hk1, hk2, hc⟩ := own_vis hv.own (by omega)
  have c2 : w.cell? ⟨cb, 2, none⟩ = some (.slice (some ⟨g, 0, none⟩) k.length kc) := hv.cell 2
  have f2 := hv.free 2
  have c0 : w.cell? ⟨cb, 0, none⟩ = some (.pointer (some ⟨bb, 0, none⟩)) := hv.cell 0
  have SZ := hv.fr.size
  unfold maxLen at hk2
  have cx := hc (k.length - 1 - n) (by omega)
  generalize k[k.length - 1 - n]'(by omega) = y2 at *
  obtain ⟨m, hm⟩ : ∃ m, k.length - 1 - n = m := ⟨_, rfl⟩
  rw [hm] at cx
  have e1 : (k.length : Int) - 1 - (n : Int) = (m : Int) := by omega
  have e2 : (m : Int) < (k.length : Int) := by omega
  have e3 : (0 : Int) ≤ (m : Int) := by omega
  have e4 : ¬ ((k.length : Int) ≤ (m : Int)) := by omega
  have e5 : ¬ ((m : Int) < 0) := by omega
  have e6 : decide ((k.length : Int) ≤ (m : Int)) = false := by simpa using e4
  have Hv := Lib.hid hv
  clear hm hc
  have e7 : (k.length : Int) - 1 - 1 = (m : Int) := by rw [← e1, hn1]; rfl
  have e8 : (k.length : Int) - 2 = (m : Int) := by rw [← e7]; omega
  have c2a : ∀ o, (w.alloc o).drew.cell? ⟨cb, 2, none⟩ = some (.slice (some ⟨g, 0, none⟩) k.length kc) := fun o => (((Fr.refl [] w).alloc o).drew).cell c2 (by simp)
  clear hv e1 hn1
  go_enter Try.func96, Try.ntmps96
  go_wp2_with fail
  go_region_law ((go_must (refine step_app4 sliceI64 _ (by rfl) _ _ (by rfl) D.W.heap.size _ k.length (vis k) (by rfl) (Hv.out.ow (by first | exact ((Fr.refl [] _).alloc _) | exact ((Fr.refl [] _).alloc _).drew | exact ((Fr.refl [] _).drew).alloc _ | exact (((Fr.refl [] _).drewN _).alloc _) | exact ((((Fr.refl [] _).drewN _).alloc _).drew) | exact ((((Fr.refl [] _).drewN _).drew).alloc _))) (some ⟨w.heap.size, 0, none⟩) 1 1 [_] (by rfl) (by rfl) (fun h => by cases h) (by first | exact news_blk (blk_new w _) | exact news_blk (blk_new w.drew _)) (by simp [Value.oneCell']) (by omega) (by decide) (by simp; omega) ?_); intro a8 c8' w8 ho8 hf8 hg8 ht8; have HP := Lib.hid (Hv.out.pushed (by first | exact ((Fr.refl [] _).alloc _) | exact ((Fr.refl [] _).alloc _).drew | exact ((Fr.refl [] _).drew).alloc _ | exact (((Fr.refl [] _).drewN _).alloc _) | exact ((((Fr.refl [] _).drewN _).alloc _).drew) | exact ((((Fr.refl [] _).drewN _).drew).alloc _)) hf8 ht8 ho8); have hb8 := Hv.out.app (by first | exact ((Fr.refl [] _).alloc _) | exact ((Fr.refl [] _).alloc _).drew | exact ((Fr.refl [] _).drew).alloc _ | exact (((Fr.refl [] _).drewN _).alloc _) | exact ((((Fr.refl [] _).drewN _).alloc _).drew) | exact ((((Fr.refl [] _).drewN _).drew).alloc _)) ht8; have s2 : w8.cell? ⟨cb, 2, none⟩ = some (.slice (some ⟨g, 0, none⟩) k.length kc) := blk_cell hb8 2; have z2 : w8.frozen? ⟨cb, 2, none⟩ = false := blk_free hb8 2; clear ho8 hf8 hg8 ht8 hb8))
  all_goals
    go_wp2_with fail
    go_ret
    exact ⟨rfl, HP.out⟩

set_option maxRecDepth 100000 in
set_option maxHeartbeats 4000000 in
theorem oover_err (D : CxD) (cb : Nat) (w : World) (k : List Int) (ps : List LPiece) (p : Nat) (h : CxR D cb w k ps p) (hk : k.length ≤ 1000000) (hn : k.length ≤ 1) :
    Calls Try.prog 96 #[.int .u8 20, .pointer (some ⟨cb, 0, none⟩)] w (ErrP D) := by
  obtain ⟨bb, bv, bl, off, rd, kv, qv, qs, hv⟩ := h
  obtain ⟨ka, kc, rfl⟩ := own_slice hv.own
  have c2 : w.cell? ⟨cb, 2, none⟩ = some (.slice ka k.length kc) := hv.cell 2
  have c0 : w.cell? ⟨cb, 0, none⟩ = some (.pointer (some ⟨bb, 0, none⟩)) := hv.cell 0
  have Hv := Lib.hid hv
  have e0 : (k.length : Int) - 1 - 1 < 0 := by omega
  clear hv
  go_enter Try.func96, Try.ntmps96
  go_wp2_with fail
  go_ret
  exact ⟨.inl ⟨_, _, rfl⟩, Hv.out.fr⟩

set_option maxRecDepth 100000 in
set_option maxHeartbeats 4000000 in
theorem oplusu_any (D : CxD) (cb : Nat) (w : World) (k : List Int) (ps : List LPiece) (p p' : Nat) (n : Nat) (a y : Int) (h : CxR D cb w k ps p) (hk : k.length ≤ 1000000) (ha : AtC D p (uleb n) p') (hn : n < 18446744073709551616) (hna : wrap64 (n : Int) = a) (h1 : 0 < k.length) (hy : k[k.length - 1]'(by omega) = y) :
    Calls Try.prog 101 #[.int .u8 35, .pointer (some ⟨cb, 0, none⟩)] w (OkP D cb (k.set (k.length - 1) (wrap64 (y + a))) ps p') := by
  obtain ⟨bb, bv, bl, off, rd, kv, qv, qs, hv⟩ := h
  obtain ⟨g, kc, rfl, hk1, hk2, hc⟩ := own_vis hv.own (by omega)
  have c2 : w.cell? ⟨cb, 2, none⟩ = some (.slice (some ⟨g, 0, none⟩) k.length kc) := hv.cell 2
  have c0 : w.cell? ⟨cb, 0, none⟩ = some (.pointer (some ⟨bb, 0, none⟩)) := hv.cell 0
  have SZ := hv.fr.size
  unfold maxLen at hk2
  have Hv := Lib.hid hv
  have Ha := Lib.hid ha
  have cx := hc (k.length - 1) (by omega)
  rw [hy] at cx
  have e1 : IntKind.i64.wrap ((k.length : Int) - 1) = ((k.length - 1 : Nat) : Int) := by rw [IntWalk.i64_in _ (by omega)]; omega
  have e2 : ((k.length - 1 : Nat) : Int) < (k.length : Int) := by omega
  have e3 : (0 : Int) ≤ ((k.length - 1 : Nat) : Int) := by omega
  have Hc := Lib.hid hc
  have Hy := Lib.hid hy
  have hw1 : ∀ n, IntKind.i64.wrap n = wrap64 n := IntWalk.i64_left
  have e1' : wrap64 ((k.length : Int) - 1) = ((k.length - 1 : Nat) : Int) := by rw [← hw1]; exact e1
  clear hc hy e1
  have Hun : Hid (uval (uleb n) % M64 = n) := by show _ = _; rw [uval_uleb]; exact Nat.mod_eq_of_lt (by unfold M64; exact hn)
  have Hn := Lib.hid hn
  clear hv ha hn
  go_enter Try.func101, Try.ntmps101
  go_wp2_with (go_at_call 33; go_must (refine (lDecU_any bb bv bl off rd _ Hv.out.buf (uleb n) (D.code.drop p') (Hv.out.hp Ha.out) (uleb_ended n) (uleb_le10 Hn.out)).mono ?_); rw [Hun.out]; rintro e w1 ⟨rfl, hb1, hf1⟩; have hv1 := Hv.out.past Ha.out (n := (uleb n).length) (rfl) hb1 hf1; have Hv1 := Lib.hid hv1; have d2 : w1.cell? ⟨cb, 2, none⟩ = some (.slice (some ⟨g, 0, none⟩) k.length kc) := hv1.cell 2; have d6 : w1.cell? ⟨cb, 6, none⟩ = some (vi D.cfa) := hv1.cell 6; have d7 : w1.cell? ⟨cb, 7, none⟩ = some (vi D.base) := hv1.cell 7; have d5 : w1.cell? ⟨cb, 5, none⟩ = some (.int .u64 0) := hv1.cell 5; have x2 := hv1.free 2; have SZ1 := hv1.fr.size; have dx : w1.cell? ⟨g, k.length - 1, none⟩ = some (vi y) := hf1.cell cx (by have := Hv.out.kv_ne.2; simp [Value.ownBlock] at this; simpa using this); have fr1 : ∀ i, w1.frozen? ⟨g, i, none⟩ = false := (fun i => own_free hv1.own i); have HP := Lib.hid (hv1.poke (i := k.length - 1) (by omega) (wrap64 (y + a))); clear hb1 hf1 hv1)
  go_region_law (fail)
  all_goals
    go_wp2_with fail
    go_ret
    have HC : CxR D cb (w1.setCell ⟨g, k.length - 1, none⟩ (vi (wrap64 (y + a)))) (k.set (k.length - 1) (wrap64 (y + a))) ps p' := ⟨_, _, _, _, _, _, _, _, HP.out⟩
    exact ⟨rfl, HC.call (by first | exact (Fr.refl _ _).drew | exact (Fr.refl _ _).drewN _)⟩
end Go.Proofs.Ytahohmdfllgedaa

namespace Go.Proofs.Ytahohmdfllgedaa
open Go.RowKit
def OplutP (f op : Nat) (w : World) : Prop := Calls Try.prog 77 #[.int .u8 (op : Int)] w fun e w' => e = .returned (.tuple #[.func (.func f) #[] #[], .bool true]) ∧ w = w'
end Go.Proofs.Ytahohmdfllgedaa

namespace Go.Proofs.Ytahohmdfllgedaa
open Go.RowKit

/-- At (b, o) stand the registers (op.DwarfRegisters), as far as they are looked at. -/
structure RegsAt (W w : World) (b o : Nat) (x : LWorld) (rgv : Value) : Prop where
  c4 : w.cell? ⟨b, o + 4, none⟩ = some rgv
  c12 : w.cell? ⟨b, o + 12, none⟩ = some .nilFunc
  fr : Fr [] W w
  rlen : x.regs.length ≤ 100
  regs : ∃ a c, rgv = .slice a x.regs.length c ∧ (0 < x.regs.length → ∃ g, a = some ⟨g, 0, none⟩ ∧ ∀ i (h : i < x.regs.length), ∃ b, W.cell? ⟨g, i, none⟩ = some (.pointer (some ⟨b, 0, none⟩)) ∧ W.cell? ⟨b, 0, none⟩ = some (.int .u64 ((x.regs[i] : Nat) : Int)))

set_option maxRecDepth 100000 in
set_option maxHeartbeats 400000 in
theorem loadMore_any (b o : Nat) (w : World) (h : w.cell? ⟨b, o + 12, none⟩ = some .nilFunc) :
    Calls Try.prog 129 #[.pointer (some ⟨b, o, none⟩)] w fun e w' => e = .returned (.tuple #[]) ∧ w = w' := by
  have hq : ∀ w, (binOp .eql 1 .nilFunc .nilFunc).run Try.prog w = .ok (.bool true) w := fun _ => by kernel_rfl
  go_enter Try.func129, Try.ntmps129
  go_wp2_with fail
  refine bodyPost_ret (results_none rfl _ _ _) rfl ?_
  exact ⟨rfl, rfl⟩

set_option maxRecDepth 100000 in
set_option maxHeartbeats 1000000 in
theorem Reg_none (W : World) (b o : Nat) (x : LWorld) (rgv : Value) (w : World) (i : Nat) (h : RegsAt W w b o x rgv) (hi : x.regs.length ≤ i) (hi2 : i < 18446744073709551616) :
    Calls Try.prog 112 #[.pointer (some ⟨b, o, none⟩), .int .u64 (i : Int)] w fun e w' => e = .returned (.pointer none) ∧ w = w' := by
  obtain ⟨a, c, rfl, -⟩ := h.regs
  have c4 := h.c4
  have c12 := h.c12
  have hl := h.rlen
  have hi3 : (x.regs.length : Int) ≤ (i : Int) := by omega
  have H := Lib.hid h
  clear h
  go_enter Try.func112, Try.ntmps112
  go_wp2_with (go_at_call 129; refine (loadMore_any b o _ H.out.c12).mono ?_; rintro e w' ⟨rfl, rfl⟩)
  go_ret
  exact ⟨rfl, rfl⟩

set_option maxRecDepth 100000 in
set_option maxHeartbeats 1000000 in
theorem Reg_some (W : World) (b o : Nat) (x : LWorld) (rgv : Value) (w : World) (i : Nat) (h : RegsAt W w b o x rgv) (hi : i < x.regs.length) :
    Calls Try.prog 112 #[.pointer (some ⟨b, o, none⟩), .int .u64 (i : Int)] w fun e w' => (∃ b2, e = .returned (.pointer (some ⟨b2, 0, none⟩))) ∧ w = w' := by
  obtain ⟨a, c, rfl, h1⟩ := h.regs
  obtain ⟨g, rfl, h2⟩ := h1 (by omega)
  obtain ⟨b2, h3, h4⟩ := h2 i hi
  have c4 := h.c4
  have hl := h.rlen
  have cx := h.fr.cell h3 (by simp)
  have hi3 : (i : Int) < (x.regs.length : Int) := by omega
  have hi4 : (0 : Int) ≤ (i : Int) := by omega
  clear h h1 h2 h3 h4
  go_enter Try.func112, Try.ntmps112
  go_wp2_with fail
  go_ret
  exact ⟨⟨b2, rfl⟩, rfl⟩

set_option maxRecDepth 100000 in
set_option maxHeartbeats 1000000 in
theorem Uint64Val_any (W : World) (b o : Nat) (x : LWorld) (rgv : Value) (w : World) (i : Nat) (h : RegsAt W w b o x rgv) (hi2 : i < 18446744073709551616) :
    Calls Try.prog 78 #[.pointer (some ⟨b, o, none⟩), .int .u64 (i : Int)] w fun e w' => e = .returned (.int .u64 ((x.regs.getD i 0 : Nat) : Int)) ∧ w = w' := by
  by_cases hi : i < x.regs.length
  · obtain ⟨a, c, e1, h1⟩ := h.regs
    obtain ⟨g, e2, h2⟩ := h1 (by omega)
    obtain ⟨b2, h3, h4⟩ := h2 i hi
    have c4 := h.c4
    rw [e1, e2] at c4
    have hl := h.rlen
    have cx := h.fr.cell h3 (by simp)
    have cy := h.fr.cell h4 (by simp)
    have hi3 : (i : Int) < (x.regs.length : Int) := by omega
    have hi4 : (0 : Int) ≤ (i : Int) := by omega
    have e : x.regs.getD i 0 = x.regs[i] := by simp [hi]
    rw [e]
    generalize x.regs[i] = y at *
    have H := Lib.hid h
    have Hi := Lib.hid hi
    clear h h1 h2 h3 h4 e e1 e2 hi
    go_enter Try.func78, Try.ntmps78
    go_wp2_with (go_at_call 112; refine (Reg_some W b o x rgv _ i H.out Hi.out).mono ?_; rintro e w' ⟨⟨b3, rfl⟩, rfl⟩)
    go_ret
    exact ⟨rfl, rfl⟩
  · have e : x.regs.getD i 0 = 0 := by simp [Nat.le_of_not_lt hi]
    rw [e]
    have H := Lib.hid h
    have Hi := Lib.hid hi
    clear h e hi
    go_enter Try.func78, Try.ntmps78
    go_wp2_with (go_at_call 112; refine (Reg_none W b o x rgv _ i H.out (Nat.le_of_not_lt Hi.out) hi2).mono ?_; rintro e w' ⟨rfl, rfl⟩)
    go_ret
    exact ⟨rfl, rfl⟩
end Go.Proofs.Ytahohmdfllgedaa
