/- How many bytes an operation has. -/
import Derived.Test.YtahohmdfllgedaaCa3
import Derived.Test.YtahohmdfllgedaaCa1
set_option linter.unusedVariables false
set_option linter.unusedSimpArgs false
namespace Go.Proofs.Ytahohmdfllgedaa
open Go.RowKit

def osz (c : LCall) (j : Nat) : Nat := 1 + (eopnds c.data 0 ((eshape c.op).1.take j) [c.a, c.b]).length
theorem osz_end (c : LCall) : osz c (eshape c.op).1.length = eSz c := by
  simp [osz, eSz, eL]; omega
theorem osz_succ (c : LCall) (j : Nat) (h : j < (eshape c.op).1.length) (h' : j < 2) : osz c (j + 1) = osz c j + (eopnd c.data 0 (eshape c.op).1[j] ([c.a, c.b][j]'(by simpa using h'))).length := by
  simp only [osz]
  rw [eopnds_take c.data 0 (eshape c.op).1 [c.a, c.b] j h (by simpa using h'), List.length_append, Nat.add_assoc]
theorem osz_le (c : LCall) (j : Nat) (hd : c.data.length ≤ 64) (h1 : i64 c.a) (h2 : i64 c.b) : osz c j ≤ 149 := by
  have h3 := eopnds_len c.data 0 hd ((eshape c.op).1.take j) [c.a, c.b] (fun ch h => eshape_signs _ ch (List.mem_of_mem_take h)) (by simp; exact ⟨h1, h2⟩)
  have h4 := eshape_len c.op
  simp only [osz]
  have : ((eshape c.op).1.take j).length ≤ 2 := by rw [List.length_take]; omega
  omega

set_option maxRecDepth 100000 in
set_option maxHeartbeats 8000000 in
theorem esize_any (c : LCall) (ad : Option Addr) (cap : Nat) (w : World) (hd : c.data.length ≤ 64) (h1 : i64 c.a) (h2 : i64 c.b) :
    Calls Try.prog 53 #[.agg #[.int .i64 c.op, .int .i64 c.a, .int .i64 c.b, .slice ad c.data.length cap]] w fun e w' => e = .returned (.int .i64 (eSz c : Int)) ∧ Fr [] w w' := by
  have hsig := eshape_signs c.op
  have hlen := eshape_len c.op
  have hend := osz_end c
  have hsucc := osz_succ c
  have hle := fun j => osz_le c j hd h1 h2
  have h0 : osz c 0 = 1 := by simp [osz, eopnds]
  have hX : ∀ j (h : j < 2), i64 ([c.a, c.b][j]'(by simpa using h)) := by
    intro j h
    match j, h with
    | 0, _ => exact h1
    | 1, _ => exact h2
  have hx0 : [c.a, c.b][0]'(by simp) = c.a := rfl
  have hx1 : [c.a, c.b][1]'(by simp) = c.b := rfl
  obtain ⟨S, hS⟩ : ∃ S, (eshape c.op).1 = S := ⟨_, rfl⟩
  obtain ⟨SB, hSB⟩ : ∃ S' : ByteArray, (⟨S.toArray⟩ : ByteArray) = S' := ⟨_, rfl⟩
  have hSs : SB.size = S.length := by rw [← hSB]; simp [ByteArray.size]
  have hSg : ∀ i (h : i < SB.size) (h' : i < S.length), SB[i] = S[i] := by
    intro i h h'
    subst hSB; rfl
  have HSB := Lib.hid hSB
  have HSg := Lib.hid hSg
  clear hSB hSg
  obtain ⟨B, hB⟩ : ∃ B, (eshape c.op).2 = B := ⟨_, rfl⟩
  have HS := Lib.hid hS
  have HB := Lib.hid hB
  rw [hS] at hsig hlen hend
  have hsucc2 : ∀ j (h : j < S.length) (h' : j < 2), osz c (j + 1) = osz c j + (eopnd c.data 0 S[j] ([c.a, c.b][j]'(by simpa using h'))).length := by subst hS; exact hsucc
  have Hsucc := Lib.hid hsucc2
  have Hsig := Lib.hid hsig
  have Hend := Lib.hid hend
  have Hle := Lib.hid hle
  have H0 := Lib.hid h0
  have Hi := Lib.hid (And.intro h1 h2)
  have Hd := Lib.hid hd
  clear hS hB hsucc hsucc2 hsig hend hle h0 h1 h2 hX hx0 hx1 hd
  go_enter Try.func53, Try.ntmps53
  go_wp2_with (go_at_call 54; go_must (refine (operands_any _ _).mono ?_; rw [HS.out, HB.out, HSB.out]; rintro e w1 ⟨rfl, rfl⟩))
  go_loopw [5, 16] (fun n i wr => ∃ j : Nat, j ≤ S.length ∧ i = .int .i64 (j : Int) ∧ n = .int .i64 (osz c j : Int) ∧ Fr [] (w.alloc (.cells #[.int .i64 c.op, .int .i64 c.a, .int .i64 c.b, .slice ad c.data.length cap] 48 (0, 0))) wr) (fun _ i _ => S.length - (intOf i).toNat)
  case atStart => exact ⟨0, Nat.zero_le _, rfl, by rw [H0.out]; rfl, Fr.refl _ _⟩
  case round =>
    obtain ⟨j, hj, rfl, rfl, hfr⟩ := hrel
    have Hfr := Lib.hid hfr
    clear hfr
    by_cases hlt : j < S.length
    case neg =>
      obtain rfl : j = S.length := by omega
      clear hlt
      go_wp2
      go_ret
      exact ⟨by rw [Hend.out]; rfl, ((Fr.refl _ _).alloc _).then Hfr.out⟩
    case pos =>
      have hb := Hfr.out.get (blk_new _ _) (by simp)
      have k1 : wr.cell? ⟨w.heap.size, 1, none⟩ = some (.int .i64 c.a) := by rw [blk_cell hb]; rfl
      have k2 : wr.cell? ⟨w.heap.size, 2, none⟩ = some (.int .i64 c.b) := by rw [blk_cell hb]; rfl
      have k3 : wr.cell? ⟨w.heap.size, 3, none⟩ = some (.slice ad c.data.length cap) := by rw [blk_cell hb]; rfl
      clear hb
      obtain ⟨ch, hch⟩ : ∃ ch, S[j] = ch := ⟨_, rfl⟩
      have hlS : j < SB.size := by omega
      have hSj : SB[j] = ch := by rw [HSg.out j hlS hlt]; exact hch
      have hsgn : esign ch := Hsig.out ch (by rw [← hch]; exact List.getElem_mem _)
      have hst := Hsucc.out j hlt (by omega)
      rw [hch] at hst
      clear hch
      have hle1 := Hle.out (j + 1)
      rcases (show j = 0 ∨ j = 1 by omega) with rfl | rfl
      · obtain ⟨z, hz⟩ : ∃ z, c.a = z := ⟨_, rfl⟩
        have hz64 : i64 z := by rw [← hz]; exact Hi.out.1
        obtain ⟨m, hm⟩ : ∃ m, u64of z = m := ⟨_, rfl⟩
        have hmc : IntKind.u64.wrap z = (m : Int) := by rw [← hm]; exact u64of_cast z
        have hm64 : m < 18446744073709551616 := by rw [← hm]; exact u64of_lt z
        have hst2 : osz c (0 + 1) = osz c 0 + (eopnd c.data 0 ch z).length := by rw [hst, ← hz]; rfl
        rw [hz] at k1
        have Hz := Lib.hid (And.intro hz64 hm64)
        have HM := Lib.hid hm
        have HMC := Lib.hid hmc
        have Hst := Lib.hid hst2
        clear hst hst2 hz64 hm hmc hm64 hz k2
        obtain ⟨q, hq⟩ : ∃ q, osz c 0 = q := ⟨_, rfl⟩
        obtain ⟨r, hr⟩ : ∃ r, osz c (0 + 1) = r := ⟨_, rfl⟩
        have Hq := Lib.hid hq
        have Hr := Lib.hid hr
        have hqr : q ≤ 149 := by rw [← hq]; exact Hle.out _
        rw [hr] at hle1
        rw [hq]
        clear hq hr
        have e0 : r = q + (eopnd c.data 0 ch z).length := by rw [← Hq.out, ← Hr.out]; exact Hst.out
        rcases hsgn with rfl | rfl | rfl | rfl | rfl | rfl | rfl | rfl | rfl
        · as_aux_lemma =>
          have e1 : r = q + (uleb m).length := by rw [e0, ← HM.out]; rfl
          clear e0
          have hw1 := HMC.out
          go_wp2_with (go_at_call 10; go_must (refine (Unsigned_any m Hz.out.2 _).mono ?_); rintro e w3 ⟨a3, c3, rfl, ho3, hf3⟩)
          clear ho3 hw1
          go_roundw
          case rel => exact ⟨1, by omega, by go_num, by rw [Hr.out]; rw [e1]; go_num, Hfr.out.then hf3⟩
          case measure => simp [intOf]; omega
        · as_aux_lemma =>
          have e1 : r = q + (sleb z).length := by rw [e0]; rfl
          clear e0
          go_wp2_with (go_at_call 16; go_must (refine (Signed_any z Hz.out.1.1 Hz.out.1.2 _).mono ?_); rintro e w3 ⟨a3, c3, rfl, ho3, hf3⟩)
          clear ho3
          go_roundw
          case rel => exact ⟨1, by omega, by go_num, by rw [Hr.out]; rw [e1]; go_num, Hfr.out.then hf3⟩
          case measure => simp [intOf]; omega
        · as_aux_lemma =>
          have e1 : r = q + 8 := by rw [e0]; simp [eopnd, leL_length]
          clear e0
          go_wp2_with fail
          go_roundw
          case rel => exact ⟨1, by omega, by go_num, by rw [Hr.out]; rw [e1]; go_num, Hfr.out⟩
          case measure => simp [intOf]; omega
        · as_aux_lemma =>
          have e1 : r = q + 2 := by rw [e0]; simp [eopnd, leL_length]
          clear e0
          go_wp2_with fail
          go_roundw
          case rel => exact ⟨1, by omega, by go_num, by rw [Hr.out]; rw [e1]; go_num, Hfr.out⟩
          case measure => simp [intOf]; omega
        · as_aux_lemma =>
          have hdl := Hd.out
          have hd64 : c.data.length < 18446744073709551616 := by omega
          have e1 : r = q + ((uleb c.data.length).length + c.data.length) := by rw [e0]; simp [eopnd]
          clear e0
          have hu10 := uleb_le10 hd64
          have hw1 : IntKind.u64.wrap (c.data.length : Int) = (c.data.length : Int) := by show (c.data.length : Int) % 18446744073709551616 = _; omega
          have hw2 : IntKind.i64.wrap (((uleb c.data.length).length : Int) + (c.data.length : Int)) = (((uleb c.data.length).length + c.data.length : Nat) : Int) := by rw [wrap_i64_eq, wrap64_id (by omega) (by omega)]; omega
          have hw3 : IntKind.i64.wrap ((q : Int) + (((uleb c.data.length).length + c.data.length : Nat) : Int)) = (r : Int) := by rw [wrap_i64_eq, wrap64_id (by omega) (by omega), e1]; omega
          have HW := Lib.hid (And.intro hw2 hw3)
          have Hd64 := Lib.hid hd64
          clear hd64 hdl hw2 hw3 e1 hqr hle1
          generalize hU : (uleb c.data.length).length = U at *
          have HU := Lib.hid hU
          clear hU
          go_wp2_with fail
          go_region_held3 (fun w' => w'.cell? ⟨w.heap.size, 3, none⟩ = some (.slice ad c.data.length cap)) (first | assumption | exact hf3.cell (by assumption) (by simp)) ((go_at_call 10; refine (Unsigned_any c.data.length Hd64.out _).mono ?_; rintro e w3 ⟨a3, c3, rfl, ho3, hf3⟩; clear ho3; rw [HU.out]))
          go_wp2_with fail
          rw [HW.out.1, HW.out.2]
          refine ⟨⟨1, by omega, rfl, by rw [Hr.out], (Hfr.out.drew).then hf3⟩, ?_⟩
          simp [intOf]; omega
        · as_aux_lemma =>
          have e1 : r = q + 1 := by rw [e0]; simp [eopnd, leL_length]
          clear e0
          go_wp2_with fail
          go_roundw
          case rel => exact ⟨1, by omega, by go_num, by rw [Hr.out]; rw [e1]; go_num, Hfr.out⟩
          case measure => simp [intOf]; omega
        · as_aux_lemma =>
          have e1 : r = q + 2 := by rw [e0]; simp [eopnd, leL_length]
          clear e0
          go_wp2_with fail
          go_roundw
          case rel => exact ⟨1, by omega, by go_num, by rw [Hr.out]; rw [e1]; go_num, Hfr.out⟩
          case measure => simp [intOf]; omega
        · as_aux_lemma =>
          have e1 : r = q + 4 := by rw [e0]; simp [eopnd, leL_length]
          clear e0
          go_wp2_with fail
          go_roundw
          case rel => exact ⟨1, by omega, by go_num, by rw [Hr.out]; rw [e1]; go_num, Hfr.out⟩
          case measure => simp [intOf]; omega
        · as_aux_lemma =>
          have e1 : r = q + 8 := by rw [e0]; simp [eopnd, leL_length]
          clear e0
          go_wp2_with fail
          go_roundw
          case rel => exact ⟨1, by omega, by go_num, by rw [Hr.out]; rw [e1]; go_num, Hfr.out⟩
          case measure => simp [intOf]; omega
      · obtain ⟨z, hz⟩ : ∃ z, c.b = z := ⟨_, rfl⟩
        have hz64 : i64 z := by rw [← hz]; exact Hi.out.2
        obtain ⟨m, hm⟩ : ∃ m, u64of z = m := ⟨_, rfl⟩
        have hmc : IntKind.u64.wrap z = (m : Int) := by rw [← hm]; exact u64of_cast z
        have hm64 : m < 18446744073709551616 := by rw [← hm]; exact u64of_lt z
        have hst2 : osz c (1 + 1) = osz c 1 + (eopnd c.data 0 ch z).length := by rw [hst, ← hz]; rfl
        rw [hz] at k2
        have Hz := Lib.hid (And.intro hz64 hm64)
        have HM := Lib.hid hm
        have HMC := Lib.hid hmc
        have Hst := Lib.hid hst2
        clear hst hst2 hz64 hm hmc hm64 hz
        obtain ⟨q, hq⟩ : ∃ q, osz c 1 = q := ⟨_, rfl⟩
        obtain ⟨r, hr⟩ : ∃ r, osz c (1 + 1) = r := ⟨_, rfl⟩
        have Hq := Lib.hid hq
        have Hr := Lib.hid hr
        have hqr : q ≤ 149 := by rw [← hq]; exact Hle.out _
        rw [hr] at hle1
        rw [hq]
        clear hq hr
        have e0 : r = q + (eopnd c.data 0 ch z).length := by rw [← Hq.out, ← Hr.out]; exact Hst.out
        rcases hsgn with rfl | rfl | rfl | rfl | rfl | rfl | rfl | rfl | rfl
        · as_aux_lemma =>
          have e1 : r = q + (uleb m).length := by rw [e0, ← HM.out]; rfl
          clear e0
          have hw1 := HMC.out
          go_wp2_with (go_at_call 10; go_must (refine (Unsigned_any m Hz.out.2 _).mono ?_); rintro e w3 ⟨a3, c3, rfl, ho3, hf3⟩)
          clear ho3 hw1
          go_roundw
          case rel => exact ⟨2, by omega, by go_num, by rw [Hr.out]; rw [e1]; go_num, Hfr.out.then hf3⟩
          case measure => simp [intOf]; omega
        · as_aux_lemma =>
          have e1 : r = q + (sleb z).length := by rw [e0]; rfl
          clear e0
          go_wp2_with (go_at_call 16; go_must (refine (Signed_any z Hz.out.1.1 Hz.out.1.2 _).mono ?_); rintro e w3 ⟨a3, c3, rfl, ho3, hf3⟩)
          clear ho3
          go_roundw
          case rel => exact ⟨2, by omega, by go_num, by rw [Hr.out]; rw [e1]; go_num, Hfr.out.then hf3⟩
          case measure => simp [intOf]; omega
        · as_aux_lemma =>
          have e1 : r = q + 8 := by rw [e0]; simp [eopnd, leL_length]
          clear e0
          go_wp2_with fail
          go_roundw
          case rel => exact ⟨2, by omega, by go_num, by rw [Hr.out]; rw [e1]; go_num, Hfr.out⟩
          case measure => simp [intOf]; omega
        · as_aux_lemma =>
          have e1 : r = q + 2 := by rw [e0]; simp [eopnd, leL_length]
          clear e0
          go_wp2_with fail
          go_roundw
          case rel => exact ⟨2, by omega, by go_num, by rw [Hr.out]; rw [e1]; go_num, Hfr.out⟩
          case measure => simp [intOf]; omega
        · as_aux_lemma =>
          have hdl := Hd.out
          have hd64 : c.data.length < 18446744073709551616 := by omega
          have e1 : r = q + ((uleb c.data.length).length + c.data.length) := by rw [e0]; simp [eopnd]
          clear e0
          have hu10 := uleb_le10 hd64
          have hw1 : IntKind.u64.wrap (c.data.length : Int) = (c.data.length : Int) := by show (c.data.length : Int) % 18446744073709551616 = _; omega
          have hw2 : IntKind.i64.wrap (((uleb c.data.length).length : Int) + (c.data.length : Int)) = (((uleb c.data.length).length + c.data.length : Nat) : Int) := by rw [wrap_i64_eq, wrap64_id (by omega) (by omega)]; omega
          have hw3 : IntKind.i64.wrap ((q : Int) + (((uleb c.data.length).length + c.data.length : Nat) : Int)) = (r : Int) := by rw [wrap_i64_eq, wrap64_id (by omega) (by omega), e1]; omega
          have HW := Lib.hid (And.intro hw2 hw3)
          have Hd64 := Lib.hid hd64
          clear hd64 hdl hw2 hw3 e1 hqr hle1
          generalize hU : (uleb c.data.length).length = U at *
          have HU := Lib.hid hU
          clear hU
          go_wp2_with fail
          go_region_held3 (fun w' => w'.cell? ⟨w.heap.size, 3, none⟩ = some (.slice ad c.data.length cap)) (first | assumption | exact hf3.cell (by assumption) (by simp)) ((go_at_call 10; refine (Unsigned_any c.data.length Hd64.out _).mono ?_; rintro e w3 ⟨a3, c3, rfl, ho3, hf3⟩; clear ho3; rw [HU.out]))
          go_wp2_with fail
          rw [HW.out.1, HW.out.2]
          refine ⟨⟨2, by omega, rfl, by rw [Hr.out], (Hfr.out.drew).then hf3⟩, ?_⟩
          simp [intOf]; omega
        · as_aux_lemma =>
          have e1 : r = q + 1 := by rw [e0]; simp [eopnd, leL_length]
          clear e0
          go_wp2_with fail
          go_roundw
          case rel => exact ⟨2, by omega, by go_num, by rw [Hr.out]; rw [e1]; go_num, Hfr.out⟩
          case measure => simp [intOf]; omega
        · as_aux_lemma =>
          have e1 : r = q + 2 := by rw [e0]; simp [eopnd, leL_length]
          clear e0
          go_wp2_with fail
          go_roundw
          case rel => exact ⟨2, by omega, by go_num, by rw [Hr.out]; rw [e1]; go_num, Hfr.out⟩
          case measure => simp [intOf]; omega
        · as_aux_lemma =>
          have e1 : r = q + 4 := by rw [e0]; simp [eopnd, leL_length]
          clear e0
          go_wp2_with fail
          go_roundw
          case rel => exact ⟨2, by omega, by go_num, by rw [Hr.out]; rw [e1]; go_num, Hfr.out⟩
          case measure => simp [intOf]; omega
        · as_aux_lemma =>
          have e1 : r = q + 8 := by rw [e0]; simp [eopnd, leL_length]
          clear e0
          go_wp2_with fail
          go_roundw
          case rel => exact ⟨2, by omega, by go_num, by rw [Hr.out]; rw [e1]; go_num, Hfr.out⟩
          case measure => simp [intOf]; omega
end Go.Proofs.Ytahohmdfllgedaa
