/- spec.Rules: within the frame.
laws.FnFrames: whatever the input, it returns true. Printed by gen_gff.py.
How the arguments of a statement are opened: what the form's reading gives the walks.
What comes in as call frame information: its data, opened. -/
import Derived.Test.YtahohmdfllgedaaGreatFa18
import Derived.Test.YtahohmdfllgedaaGreatFa9
import Derived.Test.YtahohmdfllgedaaGreatFa7
import Derived.Test.YtahohmdfllgedaaGreatFa17
import Derived.Test.YtahohmdfllgedaaGreatFa0
import Derived.Test.YtahohmdfllgedaaGreatFa1
import Derived.Test.YtahohmdfllgedaaGreatRows
import Derived.ProofKit
import Derived.OpenShut
import Derived.ShutString
import Derived.ChangeOld
import Derived.Below
import Derived.Deep.Slices
import Derived.Deep.Fields
import Derived.ChangeSame
set_option linter.unusedVariables false
set_option linter.unusedSimpArgs false
namespace Go.Proofs.YtahohmdfllgedaaGreat
open Go.RowKit

theorem ccB_crB' {x : LCall} (h : ccB x = true) : crB x = true := by
  simp only [ccB, Bool.and_eq_true] at h; exact h.1.1.1.1.1.1.1
theorem sCall_len1 {off : Int} {x : LCall} {s s' : LSta} (h : sCall off x s = some s') : s'.2.length ≤ s.2.length + 1 := by
  have hp : ∀ {t}, popT s = some t → t.2.length ≤ s.2.length + 1 := fun {t} ht => by
    unfold popT at ht
    split at ht
    · cases ht
    · obtain rfl := Option.some.inj ht; simp; omega
  have h0 : ∀ {q : LSta}, (some q : Option LSta) = some s' → q.2.length ≤ s.2.length + 1 → s'.2.length ≤ s.2.length + 1 := fun e hq => by obtain rfl := Option.some.inj e; exact hq
  unfold sCall at h
  iterate 12 (rcases ite_or h with ⟨-, h⟩ | h; · (first | exact hp h | exact h0 h (by simp)))
  rcases ite_or h with ⟨-, h⟩ | h
  · rcases ite_or h with ⟨-, h⟩ | h
    · exact h0 h (by simp)
    · cases h
  rcases ite_or h with ⟨-, h⟩ | h
  · exact h0 h (by simp)
  · cases h

set_option maxRecDepth 100000 in
set_option maxHeartbeats 4000000 in
theorem Rules_in (W w : World) (c : LCommon) (cv fv kv : Value) (f : LFrame) (pc : Nat) (hW : Fr [] W w) (hcs : RSl 4 (RCall W) W cv c.calls) (hfs : RSl 4 (RCall W) W kv f.calls) (hr : rcB c = true) (hfr : frB f = true) (hf : f.start < 18446744073709551616 ∧ f.size < 18446744073709551616) (hp : pc < 18446744073709551616) (h : f.start ≤ pc ∧ pc < f.start + f.size) :
    Calls Tryz.prog 11 #[commonV c cv fv, frameV f kv, .int .u64 (pc : Int)] w (QOut (sRules c f pc) w) := by
  obtain ⟨ca, cc, rfl, -, -⟩ := hcs.shape
  obtain ⟨fa, fc, rfl, -, -⟩ := hfs.shape
  have HCS := Lib.hid hcs
  have HFS := Lib.hid hfs
  unfold commonV frameV
  obtain ⟨w3, hw3⟩ : ∃ w3, ((w.alloc (.cells #[.int .i64 c.version, .int .u64 (c.code : Int), .int .i64 c.offset, .int .i64 c.ret, .slice ca c.calls.length cc, fv] 36)).alloc (.cells #[.int .u64 (f.start : Int), .int .u64 (f.size : Int), .slice fa f.calls.length fc] 38)).alloc (.cells #[.int .i64 0, .int .i64 0, .int .i64 0, .slice none 0 0, .map none] 42) = w3 := ⟨_, rfl⟩
  have F3 : Hid (Fr [] w w3) := by rw [← hw3]; exact (((Fr.refl _ _).alloc _).alloc _).alloc _
  have BZ : Hid (w3.heap[w.heap.size + 1 + 1]? = some (.cells #[.int .i64 0, .int .i64 0, .int .i64 0, .slice none 0 0, .map none] 42 (0, 0))) := by
    have h := blk_new ((w.alloc (.cells #[.int .i64 c.version, .int .u64 (c.code : Int), .int .i64 c.offset, .int .i64 c.ret, .slice ca c.calls.length cc, fv] 36)).alloc (.cells #[.int .u64 (f.start : Int), .int .u64 (f.size : Int), .slice fa f.calls.length fc] 38)) (.cells #[.int .i64 0, .int .i64 0, .int .i64 0, .slice none 0 0, .map none] 42)
    rw [World.size_alloc, World.size_alloc, hw3] at h; exact h
  have BF : Hid (w3.heap[w.heap.size + 1]? = some (.cells #[.int .u64 (f.start : Int), .int .u64 (f.size : Int), .slice fa f.calls.length fc] 38 (0, 0))) := by
    have h := blk_new (w.alloc (.cells #[.int .i64 c.version, .int .u64 (c.code : Int), .int .i64 c.offset, .int .i64 c.ret, .slice ca c.calls.length cc, fv] 36)) (.cells #[.int .u64 (f.start : Int), .int .u64 (f.size : Int), .slice fa f.calls.length fc] 38)
    rw [World.size_alloc] at h; rw [← hw3]; exact blk_alloc h
  have BCm : Hid (w3.heap[w.heap.size]? = some (.cells #[.int .i64 c.version, .int .u64 (c.code : Int), .int .i64 c.offset, .int .i64 c.ret, .slice ca c.calls.length cc, fv] 36 (0, 0))) := by rw [← hw3]; exact blk_alloc (blk_alloc (blk_new w _))
  have r0 : w3.cell? ⟨w.heap.size + 1 + 1, 0, none⟩ = some (.int .i64 0) := blk_cell BZ.out 0
  have r1 : w3.cell? ⟨w.heap.size + 1 + 1, 1, none⟩ = some (.int .i64 0) := blk_cell BZ.out 1
  have r2 : w3.cell? ⟨w.heap.size + 1 + 1, 2, none⟩ = some (.int .i64 0) := blk_cell BZ.out 2
  have r3 : w3.cell? ⟨w.heap.size + 1 + 1, 3, none⟩ = some (.slice none 0 0) := blk_cell BZ.out 3
  have r4 : w3.cell? ⟨w.heap.size + 1 + 1, 4, none⟩ = some (.map none) := blk_cell BZ.out 4
  have q0 : w3.cell? ⟨w.heap.size + 1, 0, none⟩ = some (.int .u64 (f.start : Int)) := blk_cell BF.out 0
  have q1 : w3.cell? ⟨w.heap.size + 1, 1, none⟩ = some (.int .u64 (f.size : Int)) := blk_cell BF.out 1
  have y0 : w3.frozen? ⟨w.heap.size + 1 + 1, 0, none⟩ = false := blk_free BZ.out 0
  have y1 : w3.frozen? ⟨w.heap.size + 1 + 1, 1, none⟩ = false := blk_free BZ.out 1
  have y2 : w3.frozen? ⟨w.heap.size + 1 + 1, 2, none⟩ = false := blk_free BZ.out 2
  have y3 : w3.frozen? ⟨w.heap.size + 1 + 1, 3, none⟩ = false := blk_free BZ.out 3
  have y4 : w3.frozen? ⟨w.heap.size + 1 + 1, 4, none⟩ = false := blk_free BZ.out 4
  have s0 : w3.setCell ⟨w.heap.size + 1 + 1, 0, none⟩ (.int .i64 0) = w3 := setCell_same2 BZ.out rfl
  have s1 : w3.setCell ⟨w.heap.size + 1 + 1, 1, none⟩ (.int .i64 0) = w3 := setCell_same2 BZ.out rfl
  have s2 : w3.setCell ⟨w.heap.size + 1 + 1, 2, none⟩ (.int .i64 0) = w3 := setCell_same2 BZ.out rfl
  have s3 : w3.setCell ⟨w.heap.size + 1 + 1, 3, none⟩ (.slice none 0 0) = w3 := setCell_same2 BZ.out rfl
  have s4 : w3.setCell ⟨w.heap.size + 1 + 1, 4, none⟩ (.map none) = w3 := setCell_same2 BZ.out rfl
  have e1 : decide ((pc : Int) < (f.start : Int)) = false := by simp; omega
  have e2 : IntKind.u64.wrap ((pc : Int) - (f.start : Int)) = (pc : Int) - (f.start : Int) := by rw [IntKind.wrap_u64]; omega
  have e3 : decide ((f.size : Int) ≤ (pc : Int) - (f.start : Int)) = false := by simp; omega
  have hmm := @run_makeMap Tryz.prog
  go_enter Tryz.func11, Tryz.ntmps11
  go_upto_region 5 with fail
  have F6 : Hid (Fr [] w3 (((w3.alloc (.map #[] 0)).alloc (.cells #[.int .i64 0, .int .i64 0, .int .i64 0, .slice none 0 0, .map (some w3.heap.size)] 42)).alloc (.cells #[.slice none 0 0] 91))) := (((Fr.refl _ _).alloc _).alloc _).alloc _
  have BM : Hid (MapIs (((w3.alloc (.map #[] 0)).alloc (.cells #[.int .i64 0, .int .i64 0, .int .i64 0, .slice none 0 0, .map (some w3.heap.size)] 42)).alloc (.cells #[.slice none 0 0] 91)) w3.heap.size .i64 (fun _ => none)) := MapIs.empty _ (blk_alloc (blk_alloc (blk_new w3 _)))
  have BT : Hid ((((w3.alloc (.map #[] 0)).alloc (.cells #[.int .i64 0, .int .i64 0, .int .i64 0, .slice none 0 0, .map (some w3.heap.size)] 42)).alloc (.cells #[.slice none 0 0] 91)).heap[w3.heap.size + 1]? = some (.cells #[.int .i64 0, .int .i64 0, .int .i64 0, .slice none 0 0, .map (some w3.heap.size)] 42 (0, 0))) := by
    have h := blk_new (w3.alloc (.map #[] 0)) (.cells #[.int .i64 0, .int .i64 0, .int .i64 0, .slice none 0 0, .map (some w3.heap.size)] 42)
    rw [World.size_alloc] at h; exact blk_alloc h
  have BK : Hid ((((w3.alloc (.map #[] 0)).alloc (.cells #[.int .i64 0, .int .i64 0, .int .i64 0, .slice none 0 0, .map (some w3.heap.size)] 42)).alloc (.cells #[.slice none 0 0] 91)).heap[w3.heap.size + 1 + 1]? = some (.cells #[.slice none 0 0] 91 (0, 0))) := by
    have h := blk_new ((w3.alloc (.map #[] 0)).alloc (.cells #[.int .i64 0, .int .i64 0, .int .i64 0, .slice none 0 0, .map (some w3.heap.size)] 42)) (.cells #[.slice none 0 0] 91)
    rw [World.size_alloc, World.size_alloc] at h; exact h
  generalize (((w3.alloc (.map #[] 0)).alloc (.cells #[.int .i64 0, .int .i64 0, .int .i64 0, .slice none 0 0, .map (some w3.heap.size)] 42)).alloc (.cells #[.slice none 0 0] 91)) = w6 at *
  have HT : Hid (TS w3 w6 (w3.heap.size + 1) w3.heap.size (.slice none 0 0) (w3.heap.size + 1 + 1) (.slice none 0 0) [] (tab0, [])) :=
    ⟨F6.out, BT.out, by omega, .inl ⟨rfl, rfl⟩, ⟨_, BM.out, fun k => .inl ⟨rfl, rfl⟩⟩, Nat.le_refl _, BK.out, by omega, World.ownsRow_nil _ _ _ _, by simp [Value.ownBlock], by simp, by simp, rfl, by simp⟩
  have HW := Lib.hid hW
  have Hr := Lib.hid hr
  have Hfr := Lib.hid hfr
  have i4 : w6.cell? ⟨w.heap.size, 4, none⟩ = some (.slice ca c.calls.length cc) := blk_cell (F6.out.get BCm.out (by simp)) 4
  obtain ⟨tb, htb⟩ : ∃ tb, w3.heap.size + 1 = tb := ⟨_, rfl⟩
  obtain ⟨kb, hkb⟩ : ∃ kb, tb + 1 = kb := ⟨_, rfl⟩
  rw [htb, hkb] at HT
  simp only [htb, hkb]
  clear hcs hfs hW hr hfr htb hkb r0 r1 r2 r3 r4 q0 q1 y0 y1 y2 y3 y4 s0 s1 s2 s3 s4 e1 e2 e3 hw3
  go_wp2_with fail
  have HFW := Lib.hid (HW.out.then F3.out)
  have hd1 : decide (pc < f.start) = false := by simp; omega
  simp only [hd1]
  clear hd1
  go_loopw [35] (fun i wr => ∃ (k : Nat) (s : LSta) (mb : Nat) (ev kv : Value) (qs : List SQ), k ≤ c.calls.length ∧ i = .int .i64 (k : Int) ∧ sRun c.offset (c.calls.drop k) s = sRun c.offset c.calls (tab0, []) ∧ qs.length ≤ k ∧ TS w3 wr tb mb ev kb kv qs s) (fun i _ => c.calls.length - (intOf i).toNat)
  case atStart => exact ⟨0, _, _, _, _, [], Nat.zero_le _, rfl, rfl, Nat.zero_le _, HT.out⟩
  case round =>
    obtain ⟨k, s, mb, ev, kv, qs, hk, rfl, hrun, hql, hts⟩ := hrel
    have HTS := Lib.hid hts
    have HRUN := Lib.hid hrun
    clear hts hrun
    have hcl : c.calls.length ≤ 20 := (rc_facts Hr.out).2.2.2.2.2.2.2.2.1
    by_cases hlt : k < c.calls.length
    · obtain ⟨g, o, da, dc, rfl, d0, d1, d2, d3, hd, i0, i1, i2⟩ := call_at HCS.out (HFW.out.then HTS.out.fr) k hlt
      obtain ⟨x, hx⟩ : ∃ x, c.calls[k] = x := ⟨_, rfl⟩
      have hcx : ccB x = true := by rw [← hx]; exact (rc_facts Hr.out).2.2.2.2.2.2.2.2.2.1 _ (List.getElem_mem hlt)
      have hdr : c.calls.drop k = x :: c.calls.drop (k + 1) := by rw [List.drop_eq_getElem_cons hlt, hx]
      rw [hx] at d0 d1 d2 d3 hd i0 i1 i2
      have HDR := Lib.hid hdr
      have HCX := Lib.hid hcx
      have HD := Lib.hid (hd.fr HFW.out (fun _ _ h => by cases h))
      clear hx hd hdr hcx
      obtain ⟨op, a, b, dt⟩ := x
      simp only at d0 d1 d2 d3
      have hcm := HTS.out.fr.get BCm.out (by simp)
      have j0 : wr.cell? ⟨w.heap.size, 0, none⟩ = some (.int .i64 c.version) := blk_cell hcm 0
      have j1 : wr.cell? ⟨w.heap.size, 1, none⟩ = some (.int .u64 (c.code : Int)) := blk_cell hcm 1
      have j2 : wr.cell? ⟨w.heap.size, 2, none⟩ = some (.int .i64 c.offset) := blk_cell hcm 2
      have j3 : wr.cell? ⟨w.heap.size, 3, none⟩ = some (.int .i64 c.ret) := blk_cell hcm 3
      have j4 : wr.cell? ⟨w.heap.size, 4, none⟩ = some (.slice (some ⟨g, o, none⟩) c.calls.length cc) := blk_cell hcm 4
      have j5 : wr.cell? ⟨w.heap.size, 5, none⟩ = some fv := blk_cell hcm 5
      clear hcm i4
      go_upto_region 8 with fail
      have hb7 := blk_new wr (.cells #[.int .i64 op, .int .i64 a, .int .i64 b, .slice da dt.length dc] 53)
      have hf7 : Fr [] wr (wr.alloc (.cells #[.int .i64 op, .int .i64 a, .int .i64 b, .slice da dt.length dc] 53)) := (Fr.refl _ _).alloc _
      generalize wr.alloc (.cells #[.int .i64 op, .int .i64 a, .int .i64 b, .slice da dt.length dc] 53) = w7 at *
      have HT7 := Lib.hid (HTS.out.idle hf7)
      have l0 := hf7.cell j0 (by simp)
      have l1 := hf7.cell j1 (by simp)
      have l2 := hf7.cell j2 (by simp)
      have l3 := hf7.cell j3 (by simp)
      have l4 := hf7.cell j4 (by simp)
      have l5 := hf7.cell j5 (by simp)
      have m0 : w7.cell? ⟨wr.heap.size, 0, none⟩ = some (.int .i64 op) := blk_cell hb7 0
      have m1 : w7.cell? ⟨wr.heap.size, 1, none⟩ = some (.int .i64 a) := blk_cell hb7 1
      have m2 : w7.cell? ⟨wr.heap.size, 2, none⟩ = some (.int .i64 b) := blk_cell hb7 2
      have m3 : w7.cell? ⟨wr.heap.size, 3, none⟩ = some (.slice da dt.length dc) := blk_cell hb7 3
      have HCA : Hid (Calls Tryz.prog 31 #[.pointer (some ⟨tb, 0, none⟩), .agg #[.int .i64 c.version, .int .u64 (c.code : Int), .int .i64 c.offset, .int .i64 c.ret, .slice (some ⟨g, o, none⟩) c.calls.length cc, fv], .agg #[.int .i64 op, .int .i64 a, .int .i64 b, .slice da dt.length dc], .pointer (some ⟨kb, 0, none⟩)] w7 (TOut w3 tb kb (sCall c.offset ⟨op, a, b, dt⟩ s) w7)) :=
        call_any HT7.out c _ fv a b dt da dc dt.length op HD.out (by have := (rc_facts Hr.out).2.2.2.2.2.2.2.2.1; omega) (crb_b (ccB_crB' HCX.out) (rc_facts Hr.out).2.2.2.1 (rc_facts Hr.out).2.2.2.2.1) (crb_a (ccB_crB' HCX.out) (rc_facts Hr.out).2.2.2.1 (rc_facts Hr.out).2.2.2.2.1)
      clear hb7 hf7 j0 j1 j2 j3 j4 j5 d0 d1 d2 d3
      cases hsc : sCall c.offset ⟨op, a, b, dt⟩ s with
      | none =>
        rw [hsc] at HCA
        have HSC := Lib.hid hsc
        clear hsc
        go_upto_region 9 with (go_at_call 31; go_must (refine HCA.out.mono ?_); rintro e w8 ⟨rfl, hf8⟩; have F8 := Lib.hid hf8; clear hf8)
        have hz := F8.out.get BZ.out (by simp)
        have r0 : w8.cell? ⟨w.heap.size + 1 + 1, 0, none⟩ = some (.int .i64 0) := blk_cell hz 0
        have y0 : w8.frozen? ⟨w.heap.size + 1 + 1, 0, none⟩ = false := blk_free hz 0
        have s0 : w8.setCell ⟨w.heap.size + 1 + 1, 0, none⟩ (.int .i64 0) = w8 := setCell_same2 hz rfl
        have r1 : w8.cell? ⟨w.heap.size + 1 + 1, 1, none⟩ = some (.int .i64 0) := blk_cell hz 1
        have y1 : w8.frozen? ⟨w.heap.size + 1 + 1, 1, none⟩ = false := blk_free hz 1
        have s1 : w8.setCell ⟨w.heap.size + 1 + 1, 1, none⟩ (.int .i64 0) = w8 := setCell_same2 hz rfl
        have r2 : w8.cell? ⟨w.heap.size + 1 + 1, 2, none⟩ = some (.int .i64 0) := blk_cell hz 2
        have y2 : w8.frozen? ⟨w.heap.size + 1 + 1, 2, none⟩ = false := blk_free hz 2
        have s2 : w8.setCell ⟨w.heap.size + 1 + 1, 2, none⟩ (.int .i64 0) = w8 := setCell_same2 hz rfl
        have r3 : w8.cell? ⟨w.heap.size + 1 + 1, 3, none⟩ = some (.slice none 0 0) := blk_cell hz 3
        have y3 : w8.frozen? ⟨w.heap.size + 1 + 1, 3, none⟩ = false := blk_free hz 3
        have s3 : w8.setCell ⟨w.heap.size + 1 + 1, 3, none⟩ (.slice none 0 0) = w8 := setCell_same2 hz rfl
        have r4 : w8.cell? ⟨w.heap.size + 1 + 1, 4, none⟩ = some (.map none) := blk_cell hz 4
        have y4 : w8.frozen? ⟨w.heap.size + 1 + 1, 4, none⟩ = false := blk_free hz 4
        have s4 : w8.setCell ⟨w.heap.size + 1 + 1, 4, none⟩ (.map none) = w8 := setCell_same2 hz rfl
        clear hz
        go_wp2_with fail
        refine bodyPost_ret (v := .tuple #[tabZ, .bool false]) (by simp [results, Tryz.results11, go_sem, tabZ, r0, r1, r2, r3, r4]) rfl ?_
        have e : sRules c f pc = none := by
          unfold sRules
          rw [if_neg (by omega), ← HRUN.out, HDR.out, sRun, HSC.out]; rfl
        rw [e]
        exact ⟨rfl, F3.out.then F8.out⟩
      | some s2 =>
        rw [hsc] at HCA
        have HSC := Lib.hid hsc
        clear hsc
        go_wp2_with (go_at_call 31; go_must (refine HCA.out.mono ?_); rintro e w8 ⟨rfl, mb8, ev8, kv8, qs8, ht8⟩; have HT8 := Lib.hid ht8; clear ht8)
        go_wp2_with fail
        go_roundw
        case rel =>
          refine ⟨k + 1, s2, mb8, ev8, kv8, qs8, by omega, by go_num, ?_, ?_, HT8.out⟩
          · rw [← HRUN.out, HDR.out, sRun, HSC.out]; rfl
          · have h1 := congrArg List.length HT8.out.sk
            have h2 := congrArg List.length HTS.out.sk
            have h3 := sCall_len1 HSC.out
            simp only [List.length_map] at h1 h2
            omega
        case measure => simp [intOf]; omega
    · obtain rfl : k = c.calls.length := by omega
      have hs : sRun c.offset c.calls (tab0, []) = some s := by rw [← HRUN.out, List.drop_length]; rfl
      go_upto_region 11 with fail
      have e : sRules c f pc = (sFde c.code c.offset pc f.start f.calls s).map (·.1) := by
        unfold sRules
        rw [if_neg (by omega), hs]; rfl
      exact Rules_tail W w w3 _ c f _ _ _ _ _ pc tb mb kb ev kv qs s HW.out HFS.out Hr.out Hfr.out h F3.out BCm.out BF.out BZ.out HTS.out (by omega) _ e.symm _ (by assumption) _ _ _ _ _ _ _ _ _ _ _ _ _ _ _ _ _ _ _ _ _ _ _ _ _ _ _ _ _ _ _ _ _ _ _ _ _ _ _ _ _ _ _ _ _ _ _ _ _ _ _ _ _ _ _ _ _ _ _ _ _ _ _ _ _ _ _ _ _ _ _ _ _ _ _ _ _ _ _ _ _ _
/-- spec.Rules: each place. -/
theorem Rules_any (W w : World) (c : LCommon) (cv fv kv : Value) (f : LFrame) (pc : Nat) (hW : Fr [] W w) (hcs : RSl 4 (RCall W) W cv c.calls) (hfs : RSl 4 (RCall W) W kv f.calls) (hr : rcB c = true) (hfr : frB f = true) (hf : f.start < 18446744073709551616 ∧ f.size < 18446744073709551616) (hp : pc < 18446744073709551616) :
    Calls Tryz.prog 11 #[commonV c cv fv, frameV f kv, .int .u64 (pc : Int)] w (QOut (sRules c f pc) w) := by
  by_cases h : f.start ≤ pc ∧ pc < f.start + f.size
  · exact Rules_in W w c cv fv kv f pc hW hcs hfs hr hfr hf hp h
  · have e : sRules c f pc = none := by unfold sRules; rw [if_pos (by omega)]
    rw [e]
    exact Rules_out w c cv fv kv f pc hf hp (by omega)
end Go.Proofs.YtahohmdfllgedaaGreat

namespace Go.Proofs.YtahohmdfllgedaaGreat
open Go.RowKit

theorem entL_len (n : Nat) {c : LCommon} (h : rcB c = true) (hi : ∀ x ∈ c.calls, i64 x.a ∧ i64 x.b) (hf : ∀ f ∈ c.frames, ∀ x ∈ f.calls, i64 x.a ∧ i64 x.b) : (entL n c).length ≤ 50000 := by
  obtain ⟨_, _, _, _, _, _, _, q8, _, _, q11⟩ := rc_facts h
  have h1 := cieL_len h hi
  have h2 := padL_len (cieL c)
  have h3 : ∀ l : List LFrame, (∀ f ∈ l, f ∈ c.frames) → (l.flatMap fun f => padL (fdeL n f)).length ≤ l.length * 5712 := by
    intro l
    induction l with
    | nil => intro _; simp
    | cons f fs ih =>
      intro hm
      have e1 := ih (fun g hg => hm g (by simp [hg]))
      have e2 := fdeL_len (n := n) (q11 f (hm f (by simp))) (hf f (hm f (by simp)))
      have e3 := padL_len (fdeL n f)
      simp only [List.flatMap_cons, List.length_append, List.length_cons]
      omega
  have h4 := h3 c.frames (fun _ h => h)
  rw [entL, List.length_append]; omega
theorem secFrom_len (l : List LCommon) : ∀ n, (∀ c ∈ l, rcB c = true ∧ (∀ x ∈ c.calls, i64 x.a ∧ i64 x.b) ∧ ∀ f ∈ c.frames, ∀ x ∈ f.calls, i64 x.a ∧ i64 x.b) → (secFrom n l).length ≤ l.length * 50000 := by
  induction l with
  | nil => intro n _; simp [secFrom]
  | cons c cs ih =>
    intro n h
    have h1 := ih (n + (entL n c).length) (fun c' hc => h c' (by simp [hc]))
    have h2 := entL_len n (h c (by simp)).1 (h c (by simp)).2.1 (h c (by simp)).2.2
    simp only [secFrom, List.length_append, List.length_cons]; omega
theorem rlist_i64 {W : World} {v : Value} {l : List LCommon} (h : RList W v l) : ∀ c ∈ l, (∀ x ∈ c.calls, i64 x.a ∧ i64 x.b) ∧ ∀ f ∈ c.frames, ∀ x ∈ f.calls, i64 x.a ∧ i64 x.b := by
  intro c hc
  obtain ⟨i, hi, rfl⟩ := List.getElem_of_mem hc
  obtain ⟨a, k, rfl⟩ := rsl_form h
  obtain ⟨g, o, -, -, hel⟩ := RSl.elem h (by decide) (by omega)
  obtain ⟨vs, -, ⟨cv, fv, -, hcv, hfv, -⟩, -⟩ := hel i hi
  refine ⟨rcall_all hcv, fun f hf => ?_⟩
  obtain ⟨j, hj, rfl⟩ := List.getElem_of_mem hf
  obtain ⟨a2, k2, rfl⟩ := rsl_form hfv
  obtain ⟨g2, o2, -, -, hel2⟩ := RSl.elem hfv (by decide) (by omega)
  obtain ⟨vs2, -, ⟨cv2, -, hcv2, -⟩, -⟩ := hel2 j hj
  exact rcall_all hcv2
theorem allFr_len (l : List LCommon) (h : ∀ c ∈ l, rcB c = true) : (allFr l).length ≤ l.length * 8 := by
  induction l with
  | nil => simp [allFr]
  | cons c cs ih =>
    have h1 := ih (fun c' hc => h c' (by simp [hc]))
    have h2 := (rc_facts (h c (by simp))).2.2.2.2.2.2.2.1
    simp only [allFr, List.flatMap_cons, List.length_append, List.length_cons] at h1 ⊢; omega

theorem allFr_split (l : List LCommon) (k : Nat) (hk : k < l.length) : allFr l = allFr (l.take k) ++ (l[k].frames ++ allFr (l.drop (k + 1))) := by
  have e : l = l.take k ++ l[k] :: l.drop (k + 1) := by rw [← List.drop_eq_getElem_cons hk, List.take_append_drop]
  refine (congrArg allFr e).trans ?_
  rw [allFr, List.flatMap_append, List.flatMap_cons]; rfl
theorem items_ok {W : World} {v : Value} {l : List LCommon} (h : RList W v l) (hl : l.length ≤ 8) (hr : ∀ c ∈ l, rcB c = true) : ItemsOk (itemsFrom 0 l) (sectionL l) := by
  refine ⟨(items_sec l 0).symm, ?_, fun k c hk => hr c (items_mem_cie (List.mem_of_getElem? hk)), fun k n c x hk => ⟨?_, ?_⟩, ?_⟩
  · have := secFrom_len l 0 (fun c hc => ⟨hr c hc, rlist_i64 h c hc⟩)
    show (secFrom 0 l).length < _
    omega
  · have := items_mem_fde (List.mem_of_getElem? hk)
    exact (rc_facts (hr c this.1)).2.2.2.2.2.2.2.2.2.2 x this.2
  · obtain ⟨j, h1, h2, h3⟩ := items_back l 0 k n c x hk
    exact ⟨j, h1, h2, by omega⟩
  · have e := congrArg List.length (allFr_fdes l 0)
    rw [List.length_map] at e
    have := allFr_len l hr
    omega
theorem ccB_ne20 {x : LCall} (h : ccB x = true) : x.op ≠ 20 := by
  simp only [ccB, Bool.and_eq_true, decide_eq_true_eq] at h; exact h.1.1.1.1.1.1.2
theorem cfB_ne20 {x : LCall} (h : cfB x = true) : x.op ≠ 20 := by
  simp only [cfB, Bool.and_eq_true, decide_eq_true_eq] at h; exact h.2
theorem prs_ok {l : List LCommon} (hr : ∀ c ∈ l, rcB c = true) : ∀ p ∈ prs l, p.2.start ≤ 1099511627776 ∧ p.2.size ≤ 1048576 := by
  rintro ⟨c, f⟩ hp
  obtain ⟨h1, h2⟩ := prs_mem.1 hp
  have := fr_facts ((rc_facts (hr c h1)).2.2.2.2.2.2.2.2.2.2 f h2)
  exact ⟨this.2.2.1, this.2.1⟩

set_option maxRecDepth 100000 in
set_option maxHeartbeats 20000000 in
theorem FnFrames_walk (v : Value) (l : List LCommon) (pc : Nat) (w : World) (h : RList w v l) (hpc : pc < 18446744073709551616) :
    Calls Tryz.prog 3 #[v, .int .u64 (pc : Int)] w fun e w' => e = .returned (.bool true) ∧ Fr [] w w' := by
  obtain ⟨a0, c0, rfl, hcap1, hcap2⟩ := RSl.shape h
  have H := Lib.hid h
  cases hfit : fits1 l
  · have Hfit := Lib.hid hfit
    clear h hfit
    go_enter Tryz.func3, Tryz.ntmps3
    go_wp2_with (go_at_call 5; go_must (refine (zzFits1_any w _ l _ H.out (Fr.refl _ _)).mono ?_); rw [Hfit.out]; rintro e w1 ⟨rfl, hf1⟩; have Hf1 := Lib.hid hf1; clear hf1)
    go_ret
    exact ⟨rfl, Hf1.out⟩
  cases hri : rightL l
  · have Hfit := Lib.hid hfit
    have Hri := Lib.hid hri
    clear h hfit hri
    go_enter Tryz.func3, Tryz.ntmps3
    go_wp2_with (first | (go_at_call 5; go_must (refine (zzFits1_any w _ l _ H.out (Fr.refl _ _)).mono ?_); rw [Hfit.out]; rintro e w1 ⟨rfl, hf1⟩; have Hf1 := Lib.hid hf1; clear hf1) | (go_at_call 6; go_must (refine (Right_any w _ l _ H.out Hf1.out).mono ?_); rw [Hri.out]; rintro e w2 ⟨rfl, hf2⟩; have Hf2 := Lib.hid (Hf1.out.then hf2); clear hf2) | (go_at_call 8; go_must (refine (works_any _).mono ?_); rintro e w3 ⟨rfl, hf3⟩; have Hf3 := Lib.hid ((Hf2.out).then hf3); clear hf3))
    go_ret
    exact ⟨rfl, Hf3.out⟩
  obtain ⟨hl8, hall⟩ : l.length ≤ 8 ∧ ∀ c ∈ l, rcB c = true := by simpa [rightL] using hri
  have Hfit := Lib.hid hfit
  have Hri := Lib.hid hri
  have Hall := Lib.hid hall
  have HI64 := Lib.hid (rlist_i64 h)
  have HIO := Lib.hid (items_ok h hl8 hall)
  have hD := HIO.out.hl
  clear h hfit hri hall
  obtain ⟨D, hDe⟩ : ∃ D, sectionL l = D := ⟨_, rfl⟩
  rw [hDe] at HIO hD
  have HDe := Lib.hid hDe
  clear hDe
  go_enter Tryz.func3, Tryz.ntmps3
  go_wp2_with (first | (go_at_call 5; go_must (refine (zzFits1_any w _ l _ H.out (Fr.refl _ _)).mono ?_); rw [Hfit.out]; rintro e w1 ⟨rfl, hf1⟩; have Hf1 := Lib.hid hf1; clear hf1) | (go_at_call 6; go_must (refine (Right_any w _ l _ H.out Hf1.out).mono ?_); rw [Hri.out]; rintro e w2 ⟨rfl, hf2⟩; have Hf2 := Lib.hid (Hf1.out.then hf2); clear hf2) | (go_at_call 7; go_must (refine (apart_any w _ l _ H.out Hf2.out hl8 Hall.out).mono ?_)))
  rintro e w3 ⟨b, rfl, hb, hf3⟩
  have Hf3 := Lib.hid (Hf2.out.then hf3)
  clear hf3
  cases b
  · clear hb
    go_wp2_with (go_at_call 8; go_must (refine (works_any _).mono ?_); rintro e w4 ⟨rfl, hf4⟩; have Hf4 := Lib.hid ((Hf3.out).then hf4); clear hf4)
    go_ret
    exact ⟨rfl, Hf4.out⟩
  have HAp := Lib.hid (hb rfl)
  clear hb
  go_wp2_with (go_at_call 9; go_must (refine (Section_any w _ l _ H.out Hf3.out hl8 Hall.out).mono ?_))
  rintro e w4 ⟨a4, c4, rfl, ho4, hf4⟩
  rw [HDe.out] at ho4 ⊢
  have S4 := Lib.hid (own_sl ho4)
  have Hf4 := Lib.hid (Hf3.out.then hf4)
  clear ho4 hf4
  go_wp2_with (go_at_call 10; go_must (refine (iFrame_any a4 c4 D l pc _ HIO.out S4.out HAp.out Hall.out HI64.out hpc).mono ?_))
  rintro e w5 h5
  obtain ⟨B, E, ck, cr, cn, sa, sn, sc, rv, rt, ok, rfl, hB, hE, hf5, hno, hyes⟩ := h5.short HAp.out (prs_ok Hall.out)
  have Hf5 := Lib.hid (Hf4.out.then hf5)
  have HNO := Lib.hid hno
  have HYES := Lib.hid hyes
  clear h5 hf5 hno hyes
  go_upto_region 7 with fail
  have hfx : Fr [] w (w5.alloc (.cells #[.int .i64 ck, .int .i64 cr, .int .i64 cn, .slice sa sn sc] 29)) := Hf5.out.alloc _
  generalize w5.alloc (.cells #[.int .i64 ck, .int .i64 cr, .int .i64 cn, .slice sa sn sc] 29) = w6 at *
  have Hf6 := Lib.hid hfx
  clear hfx
  go_wp2_with fail
  go_loopw [44] (fun s wr => ∃ k : Nat, k ≤ l.length ∧ s = .int .i64 (k : Int) ∧ Fr [] w6 wr ∧ ∀ c ∈ l.take k, ∀ f ∈ c.frames, inF f pc = false) (fun s _ => l.length - (intOf s).toNat)
  case atStart => exact ⟨0, Nat.zero_le _, rfl, Fr.refl _ _, fun c hc => by simp at hc⟩
  case round =>
    obtain ⟨wo, rfl⟩ : ∃ wo : World, wo = wr := ⟨_, rfl⟩
    obtain ⟨k, hk, rfl, hfr, hnone⟩ := hrel
    have Hfr := Lib.hid (Hf6.out.then hfr)
    have HFR := Lib.hid hfr
    have HNONE := Lib.hid hnone
    clear hfr hnone
    by_cases hlt : k < l.length
    case neg =>
      obtain rfl : k = l.length := by omega
      have hok : ok = false := HNO.out (fun p hp => by
        obtain ⟨c, f⟩ := p
        obtain ⟨h1, h2⟩ := prs_mem.1 hp
        have h3 := HNONE.out
        rw [List.take_length] at h3
        exact h3 c h1 f h2)
      subst hok
      clear hlt hk
      go_wp2_with (go_at_call 8; go_must (refine (works_any _).mono ?_); rintro e w7 ⟨rfl, hf7⟩; have Hf7 := Lib.hid ((Hfr.out).then hf7); clear hf7)
      go_ret
      exact ⟨rfl, Hf7.out⟩
    case pos =>
      obtain ⟨g, o, ca, cc, fa, fc, rfl, d0, d1, d2, d3, d4, d5, hd, he, hi1, hi2, hi3, hi4⟩ := common_at H.out Hfr.out k hlt
      have hcm : l[k] ∈ l := List.getElem_mem hlt
      have htk : ∀ c ∈ l.take (k + 1), c ∈ l.take k ∨ c = l[k] := fun c hc => by
        rw [List.take_succ_eq_append_getElem hlt, List.mem_append, List.mem_singleton] at hc
        exact hc
      generalize l[k] = x at *
      have HRC := Lib.hid (Hall.out _ hcm)
      have HCM := Lib.hid hcm
      have HTK := Lib.hid htk
      clear hcm htk
      obtain ⟨xv, xcode, xoff, xret, xcalls, xframes⟩ := x
      simp only at d0 d1 d2 d3 d4 d5 he hd
      have HE := Lib.hid he
      have HD := Lib.hid hd
      clear he hd hi1 hi2 hi3 hi4
      go_upto_region 10 with fail
      have hB7 := blk_new wo (.cells #[.int .i64 xv, .int .u64 (xcode : Int), .int .i64 xoff, .int .i64 xret, .slice ca xcalls.length cc, .slice fa xframes.length fc] 36)
      have hF1 : Fr [] wo (wo.alloc (.cells #[.int .i64 xv, .int .u64 (xcode : Int), .int .i64 xoff, .int .i64 xret, .slice ca xcalls.length cc, .slice fa xframes.length fc] 36)) := (Fr.refl _ _).alloc _
      generalize wo.alloc (.cells #[.int .i64 xv, .int .u64 (xcode : Int), .int .i64 xoff, .int .i64 xret, .slice ca xcalls.length cc, .slice fa xframes.length fc] 36) = w7 at *
      obtain ⟨cb, hcb⟩ : ∃ cb, wo.heap.size = cb := ⟨_, rfl⟩
      rw [hcb] at hB7
      simp only [hcb]
      have HB7 := Lib.hid hB7
      have HF7 := Lib.hid (Hfr.out.then hF1)
      have HF67 := Lib.hid (HFR.out.then hF1)
      have m5 : w7.cell? ⟨cb, 5, none⟩ = some (.slice fa xframes.length fc) := blk_cell hB7 5
      clear hF1 d0 d1 d2 d3 d4 d5 hcb hB7
      have hxl : xframes.length ≤ 8 := (rc_facts HRC.out).2.2.2.2.2.2.2.1
      go_wp2_with fail
      go_loopw [51] (fun s wr => ∃ j : Nat, j ≤ xframes.length ∧ s = .int .i64 (j : Int) ∧ Fr [] w7 wr ∧ ∀ f ∈ xframes.take j, inF f pc = false) (fun s _ => xframes.length - (intOf s).toNat)
      case atStart => exact ⟨0, Nat.zero_le _, rfl, Fr.refl _ _, fun c hc => by simp at hc⟩
      case round =>
        obtain ⟨wi, rfl⟩ : ∃ wi : World, wi = wr := ⟨_, rfl⟩
        obtain ⟨j, hj, rfl, hfi, hnj⟩ := hrel
        have Hfi := Lib.hid hfi
        have HNJ := Lib.hid hnj
        clear hfi hnj
        by_cases hjt : j < xframes.length
        case neg =>
          obtain rfl : j = xframes.length := by omega
          clear hjt hj
          go_wp2
          go_roundw
          case rel =>
            refine ⟨k + 1, by omega, by go_num, HF67.out.then Hfi.out, fun c hc => ?_⟩
            rcases HTK.out c hc with h | rfl
            · exact HNONE.out c h
            · have h := HNJ.out; rw [List.take_length] at h; exact h
          case measure => simp [intOf]; omega
        case pos =>
          obtain ⟨gf, of, da, dc, rfl, d0, d1, d2, hfd, hz1, hz2⟩ := frame_at HE.out (HF7.out.then Hfi.out) j hjt
          have hfm : xframes[j] ∈ xframes := List.getElem_mem hjt
          have hft : ∀ f ∈ xframes.take (j + 1), f ∈ xframes.take j ∨ f = xframes[j] := fun f hf => by
            rw [List.take_succ_eq_append_getElem hjt, List.mem_append, List.mem_singleton] at hf
            exact hf
          generalize xframes[j] = fx at *
          have HFRB := Lib.hid ((rc_facts HRC.out).2.2.2.2.2.2.2.2.2.2 _ hfm)
          obtain ⟨-, hs1, hs2, -, -⟩ := fr_facts HFRB.out
          have HFM := Lib.hid hfm
          have HFT := Lib.hid hft
          have HFD := Lib.hid hfd
          obtain ⟨fs, fz, fcs⟩ := fx
          simp only at d0 d1 d2 hz1 hz2 hs1 hs2
          have HZ := Lib.hid (And.intro hz1 hz2)
          clear hfm hft hfd hz1 hz2
          go_upto_region 13 with fail
          have hB8 := blk_new wi (.cells #[.int .u64 (fs : Int), .int .u64 (fz : Int), .slice da fcs.length dc] 38)
          have hF8 : Fr [] wi (wi.alloc (.cells #[.int .u64 (fs : Int), .int .u64 (fz : Int), .slice da fcs.length dc] 38)) := (Fr.refl _ _).alloc _
          generalize wi.alloc (.cells #[.int .u64 (fs : Int), .int .u64 (fz : Int), .slice da fcs.length dc] 38) = w8 at *
          obtain ⟨db, hdb⟩ : ∃ db, wi.heap.size = db := ⟨_, rfl⟩
          rw [hdb] at hB8
          simp only [hdb]
          have HB8 := Lib.hid hB8
          have HF8 := Lib.hid hF8
          have HF78 : Hid (Fr [] w7 w8) := Hfi.out.then hF8
          have n0 : w8.cell? ⟨db, 0, none⟩ = some (.int .u64 (fs : Int)) := blk_cell hB8 0
          have n1 : w8.cell? ⟨db, 1, none⟩ = some (.int .u64 (fz : Int)) := blk_cell hB8 1
          have n2 : w8.cell? ⟨db, 2, none⟩ = some (.slice da fcs.length dc) := blk_cell hB8 2
          clear hB8 hF8 d0 d1 d2 hdb
          by_cases h1 : fs ≤ pc
          case neg =>
            have e1 : decide ((fs : Int) ≤ (pc : Int)) = false := by simp; omega
            have e1' : decide (fs ≤ pc) = false := by simp; omega
            have H1 := Lib.hid h1
            clear h1
            go_wp2_with fail
            go_roundw
            case rel =>
              refine ⟨j + 1, by omega, by go_num, HF78.out, fun f hf => ?_⟩
              rcases HFT.out f hf with h | rfl
              · exact HNJ.out f h
              · have := H1.out; simp [inF]; omega
            case measure => simp [intOf]; omega
          case pos =>
            have e1 : decide ((fs : Int) ≤ (pc : Int)) = true := by simp; omega
            have e1' : decide (fs ≤ pc) = true := by simp; omega
            have e2 : IntKind.u64.wrap ((pc : Int) - (fs : Int)) = (pc : Int) - (fs : Int) := by rw [IntKind.wrap_u64]; omega
            by_cases h2 : pc < fs + fz
            case neg =>
              have e3 : decide ((pc : Int) - (fs : Int) < (fz : Int)) = false := by simp; omega
              have H1 : Hid (¬ pc < fs + fz) := Lib.hid h2
              clear h1 h2
              go_wp2_with fail
              go_roundw
              case rel =>
                refine ⟨j + 1, by omega, by go_num, HF78.out, fun f hf => ?_⟩
                rcases HFT.out f hf with h | rfl
                · exact HNJ.out f h
                · have := H1.out; simp [inF]; omega
              case measure => simp [intOf]; omega
            case pos =>
              have e3 : decide ((pc : Int) - (fs : Int) < (fz : Int)) = true := by simp; omega
              have hin : inF ⟨fs, fz, fcs⟩ pc = true := by simp [inF]; omega
              have HIN := Lib.hid hin
              have hm : (⟨xv, xcode, xoff, xret, xcalls, xframes⟩, ⟨fs, fz, fcs⟩) ∈ prs l := prs_mem.2 ⟨HCM.out, HFM.out⟩
              have HY := Lib.hid (HYES.out _ hm hin)
              have HBC := HF78.out.get HB7.out (by simp)
              have j0 : w8.cell? ⟨cb, 0, none⟩ = some (.int .i64 xv) := blk_cell HBC 0
              have j1 : w8.cell? ⟨cb, 1, none⟩ = some (.int .u64 (xcode : Int)) := blk_cell HBC 1
              have j2 : w8.cell? ⟨cb, 2, none⟩ = some (.int .i64 xoff) := blk_cell HBC 2
              have j3 : w8.cell? ⟨cb, 3, none⟩ = some (.int .i64 xret) := blk_cell HBC 3
              have j4 : w8.cell? ⟨cb, 4, none⟩ = some (.slice ca xcalls.length cc) := blk_cell HBC 4
              have j5 : w8.cell? ⟨cb, 5, none⟩ = some (.slice (some ⟨gf, of, none⟩) xframes.length fc) := blk_cell HBC 5
              have HRU : Hid (Calls Tryz.prog 11 #[.agg #[.int .i64 xv, .int .u64 (xcode : Int), .int .i64 xoff, .int .i64 xret, .slice ca xcalls.length cc, .slice (some ⟨gf, of, none⟩) xframes.length fc], .agg #[.int .u64 (fs : Int), .int .u64 (fz : Int), .slice da fcs.length dc], .int .u64 (pc : Int)] w8 (QOut (sRules ⟨xv, xcode, xoff, xret, xcalls, xframes⟩ ⟨fs, fz, fcs⟩ pc) w8)) :=
                Rules_any w w8 ⟨xv, xcode, xoff, xret, xcalls, xframes⟩ _ _ _ ⟨fs, fz, fcs⟩ pc (HF7.out.then HF78.out) HD.out HFD.out HRC.out HFRB.out HZ.out hpc
              clear hm hin HBC h1 h2
              cases hsr : sRules ⟨xv, xcode, xoff, xret, xcalls, xframes⟩ ⟨fs, fz, fcs⟩ pc with
              | none =>
                rw [hsr] at HRU
                clear hsr
                go_wp2_with (first | (go_at_call 8; go_must (refine (works_any _).mono ?_); rintro e w10 ⟨rfl, hf10⟩; have Hf10 := Lib.hid (((Hf9.out).then (by repeat (first | exact Fr.refl _ _ | refine Fr.setCell ?_ (.inr (Nat.le_refl _)) _ | refine Fr.alloc ?_ _))).then hf10); clear hf10) | (go_at_call 11; go_must (refine HRU.out.mono ?_); rintro e w9 ⟨rfl, hf9⟩; unfold tabZ; have Hf9 := Lib.hid ((HF7.out.then HF78.out).then hf9); clear hf9))
                go_ret
                exact ⟨rfl, Hf10.out.then (Fr.refl _ _)⟩
              | some t =>
                rw [hsr] at HRU
                obtain ⟨t', ht', -⟩ := rules_sim (fun y hy => ccB_ne20 ((rc_facts HRC.out).2.2.2.2.2.2.2.2.2.1 y hy)) (fun y hy => cfB_ne20 ((fr_facts HFRB.out).2.2.2.2 y hy)) hsr
                obtain ⟨hBe, hEe, hok⟩ := HY.out t' ht'
                simp only at hBe hEe
                subst hok
                have tB : ((B : Int) == (fs : Int)) = true := by rw [beq_iff_eq]; omega
                have tE : ((E : Int) == (fs : Int) + (fz : Int)) = true := by rw [beq_iff_eq]; omega
                have hws : IntKind.u64.wrap ((fs : Int) + (fz : Int)) = (fs : Int) + (fz : Int) := by simp [IntKind.wrap, IntKind.signed, IntKind.bits]; omega
                clear hsr ht' hBe hEe
                go_upto_region 15 with (go_at_call 11; go_must (refine HRU.out.mono ?_); rintro e w9 ⟨ev, mb, rfl, hsl, -, hf9⟩; obtain ⟨ea, ec, rfl⟩ := sl_form hsl; clear hsl; simp only [stab]; have Hf9 := Lib.hid ((HF7.out.then HF78.out).then hf9); have HF89 := Lib.hid hf9; clear hf9)
                have hfA : Fr [] w9 (w9.alloc (.cells #[.int .i64 t.cfa.kind, .int .i64 t.cfa.reg, .int .i64 t.cfa.n, .slice ea t.cfa.expr.length ec, .map (some mb)] 42)) := (Fr.refl _ _).alloc _
                generalize w9.alloc (.cells #[.int .i64 t.cfa.kind, .int .i64 t.cfa.reg, .int .i64 t.cfa.n, .slice ea t.cfa.expr.length ec, .map (some mb)] 42) = wA at *
                have HFA := Lib.hid (Hf9.out.then hfA)
                have HB9 := (HF89.out.then hfA).get HB8.out (by simp)
                have s0 : wA.cell? ⟨db, 0, none⟩ = some (.int .u64 (fs : Int)) := blk_cell HB9 0
                have s1 : wA.cell? ⟨db, 1, none⟩ = some (.int .u64 (fz : Int)) := blk_cell HB9 1
                clear hfA HB9
                go_wp2_with (go_at_call 8; go_must (refine (works_any _).mono ?_); rintro e w11 ⟨rfl, hf11⟩; have Hf11 := Lib.hid ((HFA.out).then hf11); clear hf11)
                go_ret
                exact ⟨rfl, Hf11.out⟩
end Go.Proofs.YtahohmdfllgedaaGreat

namespace Go.Proofs.YtahohmdfllgedaaGreat
open Go.ChangeShapes Go.WideShapes Go.ChangeAt Go.RowKit

theorem own_knob : ownKnob Tryz.prog.godebug = none := by kernel_rfl
theorem laid_out : laidOutB Tryz.prog = true := by kernel_rfl

theorem wf_bounds_u8 {n : Int} (h : (Lit.int .u8 n).wf = true) : 0 ≤ n ∧ n < 256 := by
  have h0 : IntKind.u8.min = 0 := rfl
  have h1 : IntKind.u8.max = 255 := rfl
  simp only [Lit.wf, Bool.and_eq_true, decide_eq_true_eq] at h; omega
theorem wf_bounds_u64 {n : Int} (h : (Lit.int .u64 n).wf = true) : 0 ≤ n ∧ n < 18446744073709551616 := by
  have h0 : IntKind.u64.min = 0 := rfl
  have h1 : IntKind.u64.max = 18446744073709551615 := rfl
  simp only [Lit.wf, Bool.and_eq_true, decide_eq_true_eq] at h; omega
theorem wf_bounds_i64 {n : Int} (h : (Lit.int .i64 n).wf = true) : -9223372036854775808 ≤ n ∧ n ≤ 9223372036854775807 := by
  have h0 : IntKind.i64.min = -9223372036854775808 := rfl
  have h1 : IntKind.i64.max = 9223372036854775807 := rfl
  simp only [Lit.wf, Bool.and_eq_true, decide_eq_true_eq] at h; omega

/-- An argument of type []byte. -/
theorem arg_bytes {H : Type} {enc : TypeId × Value → H} {W : World} {base : Nat} {spare : Nat → Bool} {held : Bool} {fuel : Nat} {a : Option Addr} {len cap : Nat} {x : DataW H × List MemPlace}
    (hf : DataW.trod enc Tryz.prog W base spare held fuel 26 [.slice a len cap] = some x) : ∃ l : List UInt8, l.length = len ∧ Sl W (.slice a len cap) (vbs l) := by
  rcases open_ints Tryz.underlying26 Tryz.underlying5 (by kernel_rfl) hf with ⟨hcs, _⟩ | ⟨x, n, c, zs, hcs, _, hl, hm, hz, _, hcell, hwz⟩
  · simp at hcs
    obtain ⟨rfl, rfl, rfl⟩ := hcs
    exact ⟨[], rfl, .inl ⟨rfl, rfl⟩⟩
  · simp at hcs
    obtain ⟨rfl, rfl, rfl⟩ := hcs
    have hlen : len ≤ zs.length := by rw [hz]; split <;> omega
    have e : (zs.take len).length = len := by rw [List.length_take]; omega
    refine ⟨(zs.take len).map (fun n => UInt8.ofNat n.toNat), by simp [Nat.min_eq_left hlen], .inr ⟨x, cap, by simp [Nat.min_eq_left hlen], by simp [Nat.min_eq_left hlen, hl], hm, fun i u hi => ?_⟩⟩
    have hil : i < len := by
      have := (List.getElem?_eq_some_iff.1 hi).1
      simp at this; omega
    rw [hcell i (by omega)]
    have hw := wf_bounds_u8 (hwz (zs[i]'(by omega)) (List.getElem_mem _))
    simp [hil, show i < zs.length by omega] at hi
    rw [← hi]
    simp only [List.getD, List.getElem?_eq_getElem (show i < zs.length by omega), Option.getD_some]
    congr 2
    have : (UInt8.ofNat zs[i].toNat).toNat = zs[i].toNat := by simp [Nat.mod_eq_of_lt (show zs[i].toNat < 256 by omega)]
    rw [this]; omega

end Go.Proofs.YtahohmdfllgedaaGreat

namespace Go.Proofs.YtahohmdfllgedaaGreat
open Go.ChangeShapes Go.WideShapes Go.Deep Go.RowKit

/-- A slice argument whose elements are structs of one-cell fields: nil, or each element's field reads by itself. -/
theorem slice_fields {H : Type} {enc : TypeId × Value → H} {P : Program} {W : World} {base : Nat} {spare : Nat → Bool} {held : Bool} {t e : TypeId} {fs : Array Field} {fuel : Nat} {v : Value} {x : DataW H × List MemPlace}
    (ht : P.underlying t = some (.slice e)) (he : P.underlying e = some (.struct fs)) (hone : oneCellFields P fs = true) (hC : P.cellsOf e = fs.size) (h : DataW.trod enc P W base spare held fuel t [v] = some x) :
    v = .slice none 0 0 ∨ ∃ a len cap, v = .slice (some a) len cap ∧ len ≤ cap ∧ cap ≤ maxLen ∧
      ∀ i, i < len → ∀ (j : Nat) (f : Field), fs[j]? = some f → ∃ u y n, W.cell? (a.add (i * fs.size + j)) = some u ∧ DataW.trod enc P W base spare held n f.type [u] = some y := by
  rcases open_slice ht h with ⟨hv, -⟩ | ⟨a, len, cap, m, n, D, Pl, hv, -, hl, hm, hmm, -, hel⟩
  · exact .inl (by simpa using hv)
  · refine .inr ⟨a, len, cap, by simpa using hv, hl, hm, fun i hi j f hj => ?_⟩
    have him : i < m := by rw [hmm]; split <;> omega
    obtain ⟨cs, hcells, htr⟩ := hel i him
    rw [hC] at hcells
    obtain ⟨-, hlen, hat⟩ := World.cells?_some hcells
    obtain ⟨xs, k, -, -, -, hxl, hfd⟩ := DataW.trod_struct he htr
    obtain ⟨hoff, hsz⟩ := hone_of hone j f hj
    have hjl : j < fs.size := (Array.getElem?_eq_some_iff.1 hj).1
    have hjc : j < cs.length := by omega
    have hone1 : (cs.drop j).take 1 = [cs[j]] := by rw [List.drop_eq_getElem_cons hjc]; rfl
    have hread := hfd j f hj
    rw [hoff, hsz, hone1, List.getElem?_eq_getElem (by omega)] at hread
    refine ⟨cs[j], _, k, ?_, hread⟩
    rw [← Go.Deep.add_add, hat j hjl, List.getElem?_eq_getElem hjc]

section
variable {H : Type} {enc : TypeId × Value → H} {W : World} {base : Nat} {spare : Nat → Bool} {held : Bool}
theorem arg_bytes1 {fuel : Nat} {v : Value} {x : DataW H × List MemPlace} (hf : DataW.trod enc Tryz.prog W base spare held fuel 26 [v] = some x) : ∃ l : List UInt8, Sl W v (vbs l) := by
  rcases open_ints Tryz.underlying26 Tryz.underlying5 (by kernel_rfl) hf with ⟨hcs, _⟩ | ⟨x, n, c, zs, hcs, _⟩
  · simp at hcs; subst hcs; exact ⟨[], .inl ⟨rfl, rfl⟩⟩
  · simp at hcs; subst hcs
    obtain ⟨l, hl, hs⟩ := arg_bytes hf
    exact ⟨l, hs⟩
theorem arg_int {fuel : Nat} {k : IntKind} {t : TypeId} {v : Value} {x : DataW H × List MemPlace} (ht : Tryz.prog.underlying t = some (.int k)) (hf : DataW.trod enc Tryz.prog W base spare held fuel t [v] = some x) : ∃ n, v = .int k n ∧ (Lit.int k n).wf = true := by
  obtain ⟨n, hcs, -, hw⟩ := DataW.trod_int ht hf
  simp at hcs
  exact ⟨n, hcs, hw⟩

/-- From what each element holds to the list. -/
theorem rsl_of {α : Type} {size : Nat} {R : List Value → α → Prop} {a : Addr} {len cap : Nat} (h1 : len ≤ cap) (h2 : cap ≤ maxLen)
    (h : ∀ i, i < len → ∃ (vs : List Value) (y : α), vs.length = size ∧ R vs y ∧ ∀ j u, vs[j]? = some u → W.cell? (a.add (i * size + j)) = some u) :
    ∃ l : List α, l.length = len ∧ RSl size R W (.slice (some a) len cap) l := by
  have h' : ∀ i : Fin len, ∃ y : α, ∃ vs : List Value, vs.length = size ∧ R vs y ∧ ∀ j u, vs[j]? = some u → W.cell? (a.add (i.val * size + j)) = some u := fun i => by
    obtain ⟨vs, y, h⟩ := h i.val i.isLt; exact ⟨y, vs, h⟩
  obtain ⟨f, hf⟩ := Classical.axiomOfChoice h'
  refine ⟨List.ofFn f, by simp, .inr ⟨a, cap, by simp, by simpa using h1, h2, fun i hi => ?_⟩⟩
  have hi' : i < len := by simpa using hi
  obtain ⟨vs, h1, h2, h3⟩ := hf ⟨i, hi'⟩
  exact ⟨vs, h1, by simpa using h2, h3⟩

theorem arg_calls {fuel : Nat} {v : Value} {x : DataW H × List MemPlace} (hf : DataW.trod enc Tryz.prog W base spare held fuel 33 [v] = some x) : ∃ l : List LCall, RSl 4 (RCall W) W v l := by
  rcases slice_fields Tryz.underlying33 Tryz.underlying53 (by kernel_rfl) (by kernel_rfl) hf with rfl | ⟨a, len, cap, rfl, hl, hm, hi⟩
  · exact ⟨[], .inl ⟨rfl, rfl⟩⟩
  · obtain ⟨l, -, hr⟩ := rsl_of (size := 4) (R := RCall W) hl hm (fun i hil => by
      have hfd := hi i hil
      obtain ⟨v0, y0, k0, c0, t0⟩ := hfd 0 _ rfl
      obtain ⟨v1, y1, k1, c1, t1⟩ := hfd 1 _ rfl
      obtain ⟨v2, y2, k2, c2, t2⟩ := hfd 2 _ rfl
      obtain ⟨v3, y3, k3, c3, t3⟩ := hfd 3 _ rfl
      obtain ⟨n0, rfl, w0⟩ := arg_int Tryz.underlying3 t0
      obtain ⟨n1, rfl, w1⟩ := arg_int Tryz.underlying2 t1
      obtain ⟨n2, rfl, w2⟩ := arg_int Tryz.underlying2 t2
      obtain ⟨lb, hs⟩ := arg_bytes1 t3
      refine ⟨[_, _, _, v3], ⟨n0, n1, n2, lb⟩, rfl, ⟨v3, rfl, hs, wf_bounds_i64 w0, wf_bounds_i64 w1, wf_bounds_i64 w2⟩, fun j u hj => ?_⟩
      match j, hj with
      | 0, hj => simp at hj; subst hj; exact c0
      | 1, hj => simp at hj; subst hj; exact c1
      | 2, hj => simp at hj; subst hj; exact c2
      | 3, hj => simp at hj; subst hj; exact c3)
    exact ⟨l, hr⟩
theorem arg_frames {fuel : Nat} {v : Value} {x : DataW H × List MemPlace} (hf : DataW.trod enc Tryz.prog W base spare held fuel 34 [v] = some x) : ∃ l : List LFrame, RSl 3 (RFrame W) W v l := by
  rcases slice_fields Tryz.underlying34 Tryz.underlying38 (by kernel_rfl) (by kernel_rfl) hf with rfl | ⟨a, len, cap, rfl, hl, hm, hi⟩
  · exact ⟨[], .inl ⟨rfl, rfl⟩⟩
  · obtain ⟨l, -, hr⟩ := rsl_of (size := 3) (R := RFrame W) hl hm (fun i hil => by
      have hfd := hi i hil
      obtain ⟨v0, y0, k0, c0, t0⟩ := hfd 0 _ rfl
      obtain ⟨v1, y1, k1, c1, t1⟩ := hfd 1 _ rfl
      obtain ⟨v2, y2, k2, c2, t2⟩ := hfd 2 _ rfl
      obtain ⟨n0, rfl, w0⟩ := arg_int Tryz.underlying23 t0
      obtain ⟨n1, rfl, w1⟩ := arg_int Tryz.underlying23 t1
      obtain ⟨lb, hs⟩ := arg_calls t2
      obtain ⟨m0, rfl⟩ := Int.eq_ofNat_of_zero_le (wf_bounds_u64 w0).1
      obtain ⟨m1, rfl⟩ := Int.eq_ofNat_of_zero_le (wf_bounds_u64 w1).1
      refine ⟨[_, _, v2], ⟨m0, m1, lb⟩, rfl, ⟨v2, rfl, hs, by have := (wf_bounds_u64 w0).2; show m0 < _; omega, by have := (wf_bounds_u64 w1).2; show m1 < _; omega⟩, fun j u hj => ?_⟩
      match j, hj with
      | 0, hj => simp at hj; subst hj; exact c0
      | 1, hj => simp at hj; subst hj; exact c1
      | 2, hj => simp at hj; subst hj; exact c2)
    exact ⟨l, hr⟩
theorem arg_commons {fuel : Nat} {v : Value} {x : DataW H × List MemPlace} (hf : DataW.trod enc Tryz.prog W base spare held fuel 22 [v] = some x) : ∃ l : List LCommon, RList W v l := by
  rcases slice_fields Tryz.underlying22 Tryz.underlying36 (by kernel_rfl) (by kernel_rfl) hf with rfl | ⟨a, len, cap, rfl, hl, hm, hi⟩
  · exact ⟨[], .inl ⟨rfl, rfl⟩⟩
  · obtain ⟨l, -, hr⟩ := rsl_of (size := 6) (R := RCommon W) hl hm (fun i hil => by
      have hfd := hi i hil
      obtain ⟨v0, y0, k0, c0, t0⟩ := hfd 0 _ rfl
      obtain ⟨v1, y1, k1, c1, t1⟩ := hfd 1 _ rfl
      obtain ⟨v2, y2, k2, c2, t2⟩ := hfd 2 _ rfl
      obtain ⟨v3, y3, k3, c3, t3⟩ := hfd 3 _ rfl
      obtain ⟨v4, y4, k4, c4, t4⟩ := hfd 4 _ rfl
      obtain ⟨v5, y5, k5, c5, t5⟩ := hfd 5 _ rfl
      obtain ⟨n0, rfl, w0⟩ := arg_int Tryz.underlying3 t0
      obtain ⟨n1, rfl, w1⟩ := arg_int Tryz.underlying23 t1
      obtain ⟨n2, rfl, w2⟩ := arg_int Tryz.underlying2 t2
      obtain ⟨n3, rfl, w3⟩ := arg_int Tryz.underlying3 t3
      obtain ⟨lc, hc⟩ := arg_calls t4
      obtain ⟨lf, hfr⟩ := arg_frames t5
      obtain ⟨m1, rfl⟩ := Int.eq_ofNat_of_zero_le (wf_bounds_u64 w1).1
      refine ⟨[_, _, _, _, v4, v5], ⟨n0, m1, n2, n3, lc, lf⟩, rfl, ⟨v4, v5, rfl, hc, hfr, wf_bounds_i64 w0, by have := (wf_bounds_u64 w1).2; show m1 < _; omega, wf_bounds_i64 w2, wf_bounds_i64 w3⟩, fun j u hj => ?_⟩
      match j, hj with
      | 0, hj => simp at hj; subst hj; exact c0
      | 1, hj => simp at hj; subst hj; exact c1
      | 2, hj => simp at hj; subst hj; exact c2
      | 3, hj => simp at hj; subst hj; exact c3
      | 4, hj => simp at hj; subst hj; exact c4
      | 5, hj => simp at hj; subst hj; exact c5)
    exact ⟨l, hr⟩
end
end Go.Proofs.YtahohmdfllgedaaGreat
