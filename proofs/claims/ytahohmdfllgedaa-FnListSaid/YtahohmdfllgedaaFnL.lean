/- laws.FnList: whatever the input, it returns true. -/
import Derived.Test.YtahohmdfllgedaaImpF2
import Derived.Test.YtahohmdfllgedaaFits
import Derived.Test.YtahohmdfllgedaaImp
namespace Go.Proofs.Ytahohmdfllgedaa
open Go.RowKit

theorem entL_len (n : Nat) {c : LCommon} (h : rcB c = true) (hi : ∀ x ∈ c.calls, i64 x.a ∧ i64 x.b) (hf : ∀ f ∈ c.frames, ∀ x ∈ f.calls, i64 x.a ∧ i64 x.b) : (entL n c).length ≤ 50000 := by
  obtain ⟨_, _, _, _, _, _, _, q8, _, _, q11⟩ := rc_facts h
  have h1 := cieL_len h hi
  have h2 := padL_len (cieL c)
  have h3 : ∀ l : List LFrame, (∀ f ∈ l, f ∈ c.frames) → (l.flatMap fun f => padL (fdeL n f)).length ≤ l.length * 5712 := by
    intro l
    induction l with
    | nil => intro _; simp
    | cons f fs ih =>
      intro hm
      have e1 := ih (fun g hg => hm g (by simp [hg]))
      have e2 := fdeL_len (n := n) (q11 f (hm f (by simp))) (hf f (hm f (by simp)))
      have e3 := padL_len (fdeL n f)
      simp only [List.flatMap_cons, List.length_append, List.length_cons]
      omega
  have h4 := h3 c.frames (fun _ h => h)
  rw [entL, List.length_append]; omega
theorem secFrom_len (l : List LCommon) : ∀ n, (∀ c ∈ l, rcB c = true ∧ (∀ x ∈ c.calls, i64 x.a ∧ i64 x.b) ∧ ∀ f ∈ c.frames, ∀ x ∈ f.calls, i64 x.a ∧ i64 x.b) → (secFrom n l).length ≤ l.length * 50000 := by
  induction l with
  | nil => intro n _; simp [secFrom]
  | cons c cs ih =>
    intro n h
    have h1 := ih (n + (entL n c).length) (fun c' hc => h c' (by simp [hc]))
    have h2 := entL_len n (h c (by simp)).1 (h c (by simp)).2.1 (h c (by simp)).2.2
    simp only [secFrom, List.length_append, List.length_cons]; omega
theorem rlist_i64 {W : World} {v : Value} {l : List LCommon} (h : RList W v l) : ∀ c ∈ l, (∀ x ∈ c.calls, i64 x.a ∧ i64 x.b) ∧ ∀ f ∈ c.frames, ∀ x ∈ f.calls, i64 x.a ∧ i64 x.b := by
  intro c hc
  obtain ⟨i, hi, rfl⟩ := List.getElem_of_mem hc
  obtain ⟨a, k, rfl⟩ := rsl_form h
  obtain ⟨g, o, -, -, hel⟩ := RSl.elem h (by decide) (by omega)
  obtain ⟨vs, -, ⟨cv, fv, -, hcv, hfv, -⟩, -⟩ := hel i hi
  refine ⟨rcall_all hcv, fun f hf => ?_⟩
  obtain ⟨j, hj, rfl⟩ := List.getElem_of_mem hf
  obtain ⟨a2, k2, rfl⟩ := rsl_form hfv
  obtain ⟨g2, o2, -, -, hel2⟩ := RSl.elem hfv (by decide) (by omega)
  obtain ⟨vs2, -, ⟨cv2, -, hcv2, -⟩, -⟩ := hel2 j hj
  exact rcall_all hcv2
theorem allFr_len (l : List LCommon) (h : ∀ c ∈ l, rcB c = true) : (allFr l).length ≤ l.length * 8 := by
  induction l with
  | nil => simp [allFr]
  | cons c cs ih =>
    have h1 := ih (fun c' hc => h c' (by simp [hc]))
    have h2 := (rc_facts (h c (by simp))).2.2.2.2.2.2.2.1
    simp only [allFr, List.flatMap_cons, List.length_append, List.length_cons] at h1 ⊢; omega

theorem allFr_split (l : List LCommon) (k : Nat) (hk : k < l.length) : allFr l = allFr (l.take k) ++ (l[k].frames ++ allFr (l.drop (k + 1))) := by
  have e : l = l.take k ++ l[k] :: l.drop (k + 1) := by rw [← List.drop_eq_getElem_cons hk, List.take_append_drop]
  refine (congrArg allFr e).trans ?_
  rw [allFr, List.flatMap_append, List.flatMap_cons]; rfl
theorem items_ok {W : World} {v : Value} {l : List LCommon} (h : RList W v l) (hl : l.length ≤ 8) (hr : ∀ c ∈ l, rcB c = true) : ItemsOk (itemsFrom 0 l) (sectionL l) := by
  refine ⟨(items_sec l 0).symm, ?_, fun k c hk => hr c (items_mem_cie (List.mem_of_getElem? hk)), fun k n c x hk => ⟨?_, ?_⟩, ?_⟩
  · have := secFrom_len l 0 (fun c hc => ⟨hr c hc, rlist_i64 h c hc⟩)
    show (secFrom 0 l).length < _
    omega
  · have := items_mem_fde (List.mem_of_getElem? hk)
    exact (rc_facts (hr c this.1)).2.2.2.2.2.2.2.2.2.2 x this.2
  · obtain ⟨j, h1, h2, h3⟩ := items_back l 0 k n c x hk
    exact ⟨j, h1, h2, by omega⟩
  · have e := congrArg List.length (allFr_fdes l 0)
    rw [List.length_map] at e
    have := allFr_len l hr
    omega
theorem bvals_get (X : List LFrame) (i : Nat) (h : i < X.length) : (bvals X)[i]? = some (.int .u64 (X[i].start : Int)) := by simp [bvals, h]
theorem evals_get (X : List LFrame) (i : Nat) (h : i < X.length) : (evals X)[i]? = some (.int .u64 ((X[i].start + X[i].size : Nat) : Int)) := by simp [evals, h]
theorem bvals_len (X : List LFrame) : (bvals X).length = X.length := by simp [bvals]
theorem evals_len (X : List LFrame) : (evals X).length = X.length := by simp [evals]

set_option maxRecDepth 100000 in
set_option maxHeartbeats 20000000 in
theorem FnList_walk (v : Value) (l : List LCommon) (w : World) (h : RList w v l) :
    Calls Try.prog 5 #[v] w fun e w' => e = .returned (.bool true) ∧ Fr [] w w' := by
  obtain ⟨a0, c0, rfl, hcap1, hcap2⟩ := RSl.shape h
  have H := Lib.hid h
  cases hfit : fits1 l
  · have Hfit := Lib.hid hfit
    clear h hfit
    go_enter Try.func5, Try.ntmps5
    go_wp2_with (go_at_call 19; go_must (refine (zzFits1_any w _ l _ H.out (Fr.refl _ _)).mono ?_); rw [Hfit.out]; rintro e w1 ⟨rfl, hf1⟩; have Hf1 := Lib.hid hf1; clear hf1)
    go_ret
    exact ⟨rfl, Hf1.out⟩
  cases hri : rightL l
  · have Hfit := Lib.hid hfit
    have Hri := Lib.hid hri
    clear h hfit hri
    go_enter Try.func5, Try.ntmps5
    go_wp2_with (first | (go_at_call 19; go_must (refine (zzFits1_any w _ l _ H.out (Fr.refl _ _)).mono ?_); rw [Hfit.out]; rintro e w1 ⟨rfl, hf1⟩; have Hf1 := Lib.hid hf1; clear hf1) | (go_at_call 20; go_must (refine (Right_any w _ l _ H.out Hf1.out).mono ?_); rw [Hri.out]; rintro e w2 ⟨rfl, hf2⟩; have Hf2 := Lib.hid (Hf1.out.then hf2); clear hf2) | (go_at_call 11; go_must (refine (works_any _).mono ?_); rintro e w3 ⟨rfl, hf3⟩; have Hf3 := Lib.hid (Hf2.out.then hf3); clear hf3))
    go_ret
    exact ⟨rfl, Hf3.out⟩
  obtain ⟨hl8, hall⟩ : l.length ≤ 8 ∧ ∀ c ∈ l, rcB c = true := by simpa [rightL] using hri
  have Hfit := Lib.hid hfit
  have Hri := Lib.hid hri
  have Hall := Lib.hid hall
  have HIO := Lib.hid (items_ok h hl8 hall)
  have hD := HIO.out.hl
  clear h hfit hri hall
  obtain ⟨D, hDe⟩ : ∃ D, sectionL l = D := ⟨_, rfl⟩
  rw [hDe] at HIO hD
  have HDe := Lib.hid hDe
  clear hDe
  go_enter Try.func5, Try.ntmps5
  go_wp2_with (first | (go_at_call 19; go_must (refine (zzFits1_any w _ l _ H.out (Fr.refl _ _)).mono ?_); rw [Hfit.out]; rintro e w1 ⟨rfl, hf1⟩; have Hf1 := Lib.hid hf1; clear hf1) | (go_at_call 20; go_must (refine (Right_any w _ l _ H.out Hf1.out).mono ?_); rw [Hri.out]; rintro e w2 ⟨rfl, hf2⟩; have Hf2 := Lib.hid (Hf1.out.then hf2); clear hf2) | (go_at_call 21; go_must (refine (apart_any w _ l _ H.out Hf2.out hl8 Hall.out).mono ?_)))
  rintro e w3 ⟨b, rfl, hb, hf3⟩
  have Hf3 := Lib.hid (Hf2.out.then hf3)
  clear hb hf3
  cases b
  · go_wp2_with (go_at_call 11; go_must (refine (works_any _).mono ?_); rintro e w4 ⟨rfl, hf4⟩; have Hf4 := Lib.hid (Hf3.out.then hf4); clear hf4)
    go_ret
    exact ⟨rfl, Hf4.out⟩
  go_wp2_with (go_at_call 23; go_must (refine (Section_any w _ l _ H.out Hf3.out hl8 Hall.out).mono ?_))
  rintro e w4 ⟨a4, c4, rfl, ho4, hf4⟩
  rw [HDe.out] at ho4 ⊢
  have S4 := Lib.hid (own_sl ho4)
  have Hf4 := Lib.hid (Hf3.out.then hf4)
  clear ho4 hf4
  go_wp2_with (go_at_call 22; go_must (refine (iFrames_any a4 c4 D (itemsFrom 0 l) _ HIO.out S4.out).mono ?_))
  have hN : (fdes (itemsFrom 0 l)).length = (allFr l).length := by rw [← allFr_fdes l 0, List.length_map]
  rw [allFr_fdes, hN]
  have hXl : (allFr l).length ≤ 64 := by have := allFr_len l Hall.out; omega
  have hXf : ∀ X, allFr l = X → ∀ i (hi : i < X.length), X[i].start ≤ 1099511627776 ∧ X[i].size ≤ 1048576 := by
    rintro X rfl i hi
    obtain ⟨cc, hc1, hc2⟩ := List.mem_flatMap.1 (List.getElem_mem hi)
    have := fr_facts ((rc_facts (Hall.out _ hc1)).2.2.2.2.2.2.2.2.2.2 _ hc2)
    omega
  clear hN
  rintro e w5 ⟨ab, ae, cb, ce, rfl, hs1, hs2, hf5⟩
  have HS1 := Lib.hid hs1
  have HS2 := Lib.hid hs2
  have Hf5 := Lib.hid (Hf4.out.then hf5)
  clear hs1 hs2 hf5
  obtain ⟨X, hX⟩ : ∃ X, allFr l = X := ⟨_, rfl⟩
  have HX := Lib.hid hX
  have HXF := Lib.hid (hXf X hX)
  rw [hX] at HS1 HS2 hXl ⊢
  clear hX hXf
  go_wp2
  go_loopw [6, 44] (fun mn s wr => ∃ k : Nat, k ≤ l.length ∧ s = .int .i64 (k : Int) ∧ mn = .int .i64 (((allFr (l.take k)).length : Nat) : Int) ∧ Fr [] w5 wr) (fun _ s _ => l.length - (intOf s).toNat)
  case atStart => exact ⟨0, Nat.zero_le _, rfl, rfl, Fr.refl _ _⟩
  case round =>
    obtain ⟨wo, rfl⟩ : ∃ wo : World, wo = wr := ⟨_, rfl⟩
    obtain ⟨k, hk, rfl, rfl, hfr⟩ := hrel
    have Hfr := Lib.hid hfr
    clear hfr
    by_cases hlt : k < l.length
    case neg =>
      obtain rfl : k = l.length := by omega
      clear hlt hk
      rw [List.take_length, HX.out]
      go_wp2_with (go_at_call 11; go_must (refine (works_any _).mono ?_); rintro e w6 ⟨rfl, hf6⟩; have Hf6 := Lib.hid ((Hf5.out.then Hfr.out).then hf6); clear hf6)
      go_ret
      exact ⟨rfl, Hf6.out⟩
    case pos =>
      obtain ⟨g, o, ca, cc, fa, fc, rfl, d0, d1, d2, d3, d4, d5, hd, he, hi1, hi2, hi3, hi4⟩ := common_at H.out (Hf5.out.then Hfr.out) k hlt
      have hstep := allFr_take l k hlt
      have hpre : (allFr (l.take k)).length + l[k].frames.length ≤ X.length ∧ ∀ j (hj : j < l[k].frames.length), X[(allFr (l.take k)).length + j]? = some l[k].frames[j] := by
        have e : X = allFr (l.take k) ++ (l[k].frames ++ allFr (l.drop (k + 1))) := by rw [← HX.out]; exact allFr_split l k hlt
        refine ⟨by rw [e]; simp only [List.length_append]; omega, fun j hj => ?_⟩
        rw [e, List.getElem?_append_right (by omega), Nat.add_sub_cancel_left, List.getElem?_append_left hj, List.getElem?_eq_getElem hj]
      generalize l[k] = x at *
      obtain ⟨xv, xcode, xoff, xret, xcalls, xframes⟩ := x
      simp only at d0 d1 d2 d3 d4 d5 he hstep hpre
      obtain ⟨hp1, hp2⟩ := hpre
      obtain ⟨p0, hp0⟩ : ∃ p0, (allFr (l.take k)).length = p0 := ⟨_, rfl⟩
      rw [hp0] at hp1 hp2 ⊢
      have Hstep : Hid ((allFr (l.take (k + 1))).length = p0 + xframes.length) := by show _ = _; rw [hstep, List.length_append, hp0]
      have HE := Lib.hid he
      have HP2 := Lib.hid hp2
      clear hstep he hd hi1 hi2 hi3 hi4 hp0 hp2
      go_wp2_with fail
      have hF1 : Fr [] wo (wo.alloc (.cells #[.int .i64 xv, .int .u64 (xcode : Int), .int .i64 xoff, .int .i64 xret, .slice ca xcalls.length cc, .slice fa xframes.length fc] 44)) := (Fr.refl _ _).alloc _
      generalize wo.alloc (.cells #[.int .i64 xv, .int .u64 (xcode : Int), .int .i64 xoff, .int .i64 xret, .slice ca xcalls.length cc, .slice fa xframes.length fc] 44) = w6 at *
      have HF6 := Lib.hid (Hfr.out.then hF1)
      clear hF1 d0 d1 d2 d3 d4 d5
      go_loopw [6, 51] (fun mn s wr => ∃ j : Nat, j ≤ xframes.length ∧ s = .int .i64 (j : Int) ∧ mn = .int .i64 ((p0 + j : Nat) : Int) ∧ Fr [] w6 wr) (fun _ s _ => xframes.length - (intOf s).toNat)
      case atStart => exact ⟨0, Nat.zero_le _, rfl, rfl, Fr.refl _ _⟩
      case round =>
        obtain ⟨wi, rfl⟩ : ∃ wi : World, wi = wr := ⟨_, rfl⟩
        obtain ⟨j, hj, rfl, rfl, hfi⟩ := hrel
        have Hfi := Lib.hid hfi
        clear hfi
        by_cases hjt : j < xframes.length
        case neg =>
          obtain rfl : j = xframes.length := by omega
          clear hjt hj
          go_wp2
          go_roundw
          case rel => exact ⟨k + 1, by omega, by go_num, by rw [Hstep.out], HF6.out.then Hfi.out⟩
          case measure => simp [intOf]; omega
        case pos =>
          obtain ⟨gf, of, da, dc, rfl, d0, d1, d2, -, hz1, hz2⟩ := frame_at HE.out ((Hf5.out.then HF6.out).then Hfi.out) j hjt
          have hxp := HP2.out j hjt
          generalize xframes[j] = fx at *
          obtain ⟨fs, fz, fcs⟩ := fx
          simp only at d0 d1 d2
          have hpl : p0 + j < X.length := by omega
          have hfb := HXF.out (p0 + j) hpl
          have hxe : X[p0 + j] = ⟨fs, fz, fcs⟩ := by rw [List.getElem?_eq_getElem hpl] at hxp; exact Option.some.inj hxp
          rw [hxe] at hfb
          obtain ⟨hfb1, hfb2⟩ : fs ≤ 1099511627776 ∧ fz ≤ 1048576 := hfb
          have Hxe := Lib.hid hxe
          obtain ⟨p, hp⟩ : ∃ p, p0 + j = p := ⟨_, rfl⟩
          have Hp := Lib.hid hp
          have hpX : p < X.length := by omega
          have hp1 : (((p0 + j : Nat) : Int)) + 1 = ((p0 + (j + 1) : Nat) : Int) := by omega
          have Hp1 := Lib.hid hp1
          clear hxp hxe hp hp1 hz1 hz2
          go_wp2_with fail
          have hB7 : (wi.alloc (.cells #[.int .u64 (fs : Int), .int .u64 (fz : Int), .slice da fcs.length dc] 46)).heap[wi.heap.size]? = some (.cells #[.int .u64 (fs : Int), .int .u64 (fz : Int), .slice da fcs.length dc] 46 (0, 0)) := blk_new _ _
          have hF7 : Fr [] wi (wi.alloc (.cells #[.int .u64 (fs : Int), .int .u64 (fz : Int), .slice da fcs.length dc] 46)) := (Fr.refl _ _).alloc _
          generalize wi.alloc (.cells #[.int .u64 (fs : Int), .int .u64 (fz : Int), .slice da fcs.length dc] 46) = w7 at *
          have HB7 := Lib.hid hB7
          have HF7 := Lib.hid hF7
          clear hB7 hF7 d0 d1 d2
          go_loopw [11, 59] (fun fnd s wr => ∃ i : Nat, ∃ b : Bool, i ≤ X.length ∧ s = .int .i64 (i : Int) ∧ fnd = .bool b ∧ (p < i → b = true) ∧ Fr [] w7 wr) (fun _ s _ => X.length - (intOf s).toNat)
          case atStart => exact ⟨0, false, Nat.zero_le _, rfl, rfl, fun h => by omega, Fr.refl _ _⟩
          case round =>
            obtain ⟨wq, rfl⟩ : ∃ wq : World, wq = wr := ⟨_, rfl⟩
            obtain ⟨i, b, hi, rfl, rfl, hbt, hfq⟩ := hrel
            have Hfq := Lib.hid hfq
            have Hbt := Lib.hid hbt
            clear hfq hbt
            by_cases hit : i < X.length
            case neg =>
              obtain rfl : i = X.length := by omega
              have hb : b = true := Hbt.out hpX
              subst hb
              clear hit hi
              go_wp2
              go_roundw
              case rel => exact ⟨j + 1, by omega, by go_num, by rw [← Hp1.out]; push_cast; rfl, (Hfi.out.then HF7.out).then Hfq.out⟩
              case measure => simp [intOf]; omega
            case pos =>
              obtain ⟨gb, ob, cb', hvb, hb1, hb2, hbc⟩ := sl_some (HS1.out.fr (((HF6.out.then Hfi.out).then HF7.out).then Hfq.out) (by simp)) (by rw [bvals_len]; omega)
              obtain ⟨ge, oe, ce', hve, he1, he2, hec⟩ := sl_some (HS2.out.fr (((HF6.out.then Hfi.out).then HF7.out).then Hfq.out) (by simp)) (by rw [evals_len]; omega)
              simp only [Value.slice.injEq] at hvb hve
              obtain ⟨rfl, -, rfl⟩ := hvb
              obtain ⟨rfl, -, rfl⟩ := hve
              have k1 := hbc.cell (bvals_get X i hit)
              have k2 := hec.cell (evals_get X i hit)
              obtain ⟨A, hA⟩ : ∃ A, X[i].start = A := ⟨_, rfl⟩
              obtain ⟨E, hE⟩ : ∃ E, X[i].start + X[i].size = E := ⟨_, rfl⟩
              rw [hA] at k1
              rw [hE] at k2
              have f0 : wq.cell? ⟨wi.heap.size, 0, none⟩ = some (.int .u64 (fs : Int)) := by rw [blk_cell (Hfq.out.get HB7.out (by simp))]; rfl
              have f1 : wq.cell? ⟨wi.heap.size, 1, none⟩ = some (.int .u64 (fz : Int)) := by rw [blk_cell (Hfq.out.get HB7.out (by simp))]; rfl
              have hpi : p = i → A = fs ∧ E = fs + fz := by
                rintro rfl
                have e := Hxe.out
                simp only [Hp.out] at e
                rw [e] at hA hE
                exact ⟨hA.symm, hE.symm⟩
              have Hpi := Lib.hid hpi
              clear hA hE hpi hbc hec hb1 hb2 he1 he2
              have hws : IntKind.u64.wrap ((fs : Int) + (fz : Int)) = (fs : Int) + (fz : Int) := by simp [IntKind.wrap, IntKind.signed, IntKind.bits]; omega
              have hge : (0 : Int) ≤ (i : Int) := by omega
              have hlt2 : (i : Int) < (X.length : Int) := by omega
              cases b
              case true =>
                go_wp2_with fail
                go_quiet (fail)
                go_wp2
                refine ⟨⟨_, _, _, _, _, _, _, _, _, _, _, _, _, _, _, _, _, _, _, _, _, _, _, _, _, _, _, _, ⟨i + 1, true, by omega, by go_num, rfl, fun _ => rfl, Hfq.out.drewN _⟩, rfl⟩, ?_⟩
                simp [intOf]; omega
              case false =>
                by_cases hAB : (A : Int) = (fs : Int)
                case neg =>
                  have tA : ((A : Int) == (fs : Int)) = false := by rw [beq_eq_false_iff_ne]; exact hAB
                  go_wp2_with fail
                  go_quiet (fail)
                  go_wp2
                  go_roundw
                  case rel => exact ⟨i + 1, false, by omega, by go_num, rfl, fun h => by have h2 := Hbt.out; by_cases hp : p = i; exact absurd (congrArg Int.ofNat (Hpi.out hp).1) hAB; exact h2 (by omega), Hfq.out.drewN _⟩
                  case measure => simp [intOf]; omega
                case pos =>
                  have tA : ((A : Int) == (fs : Int)) = true := by rw [beq_iff_eq]; exact hAB
                  by_cases hEB : (E : Int) = (fs : Int) + (fz : Int)
                  case neg =>
                    have tE : ((E : Int) == (fs : Int) + (fz : Int)) = false := by rw [beq_eq_false_iff_ne]; exact hEB
                    clear hAB
                    go_wp2_with fail
                    go_quiet (fail)
                    go_wp2
                    go_roundw
                    case rel => exact ⟨i + 1, false, by omega, by go_num, rfl, fun h => by have h2 := Hbt.out; by_cases hp : p = i; exact absurd (by have := (Hpi.out hp).2; omega) hEB; exact h2 (by omega), Hfq.out.drewN _⟩
                    case measure => simp [intOf]; omega
                  case pos =>
                    have tE : ((E : Int) == (fs : Int) + (fz : Int)) = true := by rw [beq_iff_eq]; exact hEB
                    clear hAB hEB
                    go_wp2_with fail
                    go_quiet (fail)
                    go_wp2
                    go_roundw
                    case rel => exact ⟨i + 1, true, by omega, by go_num, rfl, fun _ => rfl, Hfq.out.drewN _⟩
                    case measure => simp [intOf]; omega

end Go.Proofs.Ytahohmdfllgedaa
