/- spec.Section.
laws.apart: true only where the frames stand in growing order and do not overlap.
The plain buffer and the plain reader, read by many bytes; numbers of 2, 4, 8 bytes.
The plain reader's calls; readFull, ReadFixed, ReadUintRaw.
ReadFixed, by the type of what is read.
ReadUintRaw; Buffer.Next. -/
import Derived.Test.YtahohmdfllgedaaGreatFa3
import Derived.Test.YtahohmdfllgedaaGreatFa4
import Derived.Laws.BitsAllLaws
set_option linter.unusedVariables false
set_option linter.unusedSimpArgs false
namespace Go.Proofs.YtahohmdfllgedaaGreat
open Go.RowKit

/-- Bytes that the walk has made since w, in v. -/
def Own (w : World) (l : List UInt8) (v : Value) (wx : World) : Prop :=
  ∃ a c, v = .slice a l.length c ∧ wx.ownsRow w.heap.size 5 1 (.slice a l.length c) l.length (vbs l) ∧ Fr [] w wx

theorem Own.of {w wx : World} {a : Option Addr} {c : Nat} {l k : List UInt8} (h : wx.ownsRow w.heap.size 5 1 (.slice a (l.length + k.length) c) (l.length + k.length) (vbs l ++ vbs k)) (f : Fr [] w wx) :
    Own w (l ++ k) (.slice a (l.length + k.length) c) wx := ⟨a, c, by rw [List.length_append], by rw [List.length_append, vbs_app]; exact h, f⟩

theorem cc_right {c : LCall} (h : ccB c = true) : callRightB c.op c.a c.b c.data.length = true := by
  simp [ccB, crB] at h; exact h.1.1.1.1.1.1.1
theorem cf_right {c : LCall} (h : cfB c = true) : callRightB c.op c.a c.b c.data.length = true := by
  simp [cfB, crB] at h; exact h.1
theorem rc_facts {c : LCommon} (h : rcB c = true) :
    (c.version = 1 ∨ c.version = 3) ∧ 1 ≤ c.code ∧ c.code ≤ 64 ∧ -64 ≤ c.offset ∧ c.offset ≤ 64 ∧ 0 ≤ c.ret ∧ c.ret ≤ 127 ∧ c.frames.length ≤ 8 ∧ c.calls.length ≤ 20 ∧
      (∀ x ∈ c.calls, ccB x = true) ∧ ∀ f ∈ c.frames, frB f = true := by
  simp only [rcB, Bool.and_eq_true, hdB, decide_eq_true_eq, List.all_eq_true] at h
  obtain ⟨⟨⟨h1, h2, h3, _, h5, h6, h7, h8, h9, h10⟩, h11⟩, h12⟩ := h
  exact ⟨h1, h2, h3, h5, h6, h7, h8, h9, h10, h11, h12⟩
theorem fr_facts {f : LFrame} (h : frB f = true) : ¬ f.size = 0 ∧ f.size ≤ 1048576 ∧ f.start ≤ 1099511627776 ∧ f.calls.length ≤ 40 ∧ ∀ x ∈ f.calls, cfB x = true := by
  simp only [frB, Bool.and_eq_true, decide_eq_true_eq, List.all_eq_true] at h
  obtain ⟨⟨h1, h2, h3, h4⟩, h5⟩ := h
  exact ⟨h1, h2, h3, h4, h5⟩

theorem cieL_len {c : LCommon} (h : rcB c = true) (hi : ∀ x ∈ c.calls, i64 x.a ∧ i64 x.b) : (cieL c).length ≤ 2900 := by
  obtain ⟨_, _, h2, h3, h4, h5, h6, _, h7, h8, _⟩ := rc_facts h
  have e1 := uleb_le10 (n := c.code) (by omega)
  have e2 := sleb_le10 (n := c.offset) (by omega) (by omega)
  have e3 := uleb_le10 (n := c.ret.toNat) (by omega)
  have e4 := callsL_len c.calls (fun x hx => callL_len x (cc_right (h8 x hx)) (hi x hx).1 (hi x hx).2)
  simp [cieL, leL_length]; omega
theorem fdeL_len {n : Nat} {f : LFrame} (h : frB f = true) (hi : ∀ x ∈ f.calls, i64 x.a ∧ i64 x.b) : (fdeL n f).length ≤ 5700 := by
  obtain ⟨_, _, _, h4, h5⟩ := fr_facts h
  have e4 := callsL_len f.calls (fun x hx => callL_len x (cf_right (h5 x hx)) (hi x hx).1 (hi x hx).2)
  simp [fdeL, leL_length]; omega

theorem rcall_all {W : World} {v : Value} {l : List LCall} (h : RSl 4 (RCall W) W v l) : ∀ x ∈ l, i64 x.a ∧ i64 x.b := by
  intro x hx
  obtain ⟨i, hi, rfl⟩ := List.getElem_of_mem hx
  obtain ⟨a, c, rfl⟩ := rsl_form h
  obtain ⟨g, o, -, -, hel⟩ := h.elem (by decide) (by omega)
  obtain ⟨vs, -, ⟨dv, -, -, -, h1, h2⟩, -⟩ := hel i hi
  exact ⟨h1, h2⟩
theorem padded_own {w0 w : World} {a : Option Addr} {n c : Nat} {l : List UInt8} (h : OwnR w0 w a n c l) (hl : n ≤ 1073741824) :
    Calls Tryz.prog 20 #[.slice a n c] w fun e w' => ∃ a' c', e = .returned (.slice a' (padL l).length c') ∧ OwnR w0 w' a' (padL l).length c' (padL l) := by
  obtain rfl := h.len
  refine (padded_any w0.heap.size a c l w h.own h.fr.size hl).mono ?_
  rintro e w' ⟨a', c', rfl, ho, hf⟩
  exact ⟨a', c', rfl, rfl, own_base ho h.fr.size, h.then hf⟩
def framesL (n : Nat) (l : List LFrame) : List UInt8 := l.flatMap fun f => padL (fdeL n f)
theorem framesL_take (n : Nat) (l : List LFrame) (k : Nat) (hk : k < l.length) : framesL n (l.take (k + 1)) = framesL n (l.take k) ++ padL (fdeL n l[k]) := by
  rw [framesL, List.take_succ_eq_append_getElem hk, List.flatMap_append]; simp [framesL]

set_option maxRecDepth 100000 in
set_option maxHeartbeats 20000000 in
theorem Section_any (W : World) (v : Value) (l : List LCommon) (w : World) (h : RList W v l) (hw : Fr [] W w) (hl : l.length ≤ 8) (hr : ∀ c ∈ l, rcB c = true) :
    Calls Tryz.prog 9 #[v] w (Made (sectionL l) w) := by
  obtain ⟨a0, c0, rfl, h1, h2⟩ := RSl.shape h
  have H := Lib.hid h
  have Hw := Lib.hid hw
  have Hr := Lib.hid hr
  clear h hw hr
  go_enter Tryz.func9, Tryz.ntmps9
  go_wp2_with fail
  go_loopw [3, 13] (fun v i wr => ∃ k : Nat, ∃ out : List UInt8, ∃ a c, k ≤ l.length ∧ out = secFrom 0 (l.take k) ∧ i = .int .i64 (k : Int) ∧ v = .slice a out.length c ∧ out.length ≤ k * 50000 ∧
      wr.ownsRow w.heap.size 5 1 (.slice a out.length c) out.length (vbs out) ∧ Fr [] w wr) (fun _ i _ => l.length - (intOf i).toNat)
  case atStart => exact ⟨0, [], none, 0, Nat.zero_le _, rfl, rfl, rfl, by simp, World.ownsRow_nil _ _ _ _, Fr.refl _ _⟩
  case round =>
    obtain ⟨wo, rfl⟩ : ∃ wo : World, wo = wr := ⟨_, rfl⟩
    obtain ⟨k, out, a, c, hk, hout, rfl, rfl, hlen, hown, hfr⟩ := hrel
    have Hout := Lib.hid hout
    have Hown := Lib.hid hown
    have Hfr := Lib.hid hfr
    clear hout hown hfr
    by_cases hlt : k < l.length
    case neg =>
      obtain rfl : k = l.length := by omega
      clear hlt
      go_wp2
      go_ret
      have e : out = sectionL l := by rw [Hout.out, List.take_length]; rfl
      subst e
      exact ⟨a, c, rfl, Hown.out, Hfr.out⟩
    case pos =>
      obtain ⟨g, o, ca, cc, fa, fc, rfl, d0, d1, d2, d3, d4, d5, hd, he, hi1, hi2, hi3, hi4⟩ := common_at H.out (Hw.out.then Hfr.out) k hlt
      have hstep := secFrom_take l 0 k hlt
      have hright := Hr.out _ (List.getElem_mem hlt)
      generalize l[k] = x at *
      obtain ⟨xv, xcode, xoff, xret, xcalls, xframes⟩ := x
      simp only at d0 d1 d2 d3 d4 d5
      rw [← Hout.out, Nat.zero_add] at hstep
      have hq := rc_facts hright
      simp only at hq
      obtain ⟨q1, q2, q3, q4, q5, q6, q7, q8, q9, q10, q11⟩ := hq
      have Hs := Lib.hid (And.intro hstep (And.intro hright (And.intro hd (And.intro he (And.intro q10 q11)))))
      clear hstep hright hd he q10 q11
      go_upto_region 6 with (fail)
      have hB1 : (wo.alloc (.cells #[.int .i64 xv, .int .u64 (xcode : Int), .int .i64 xoff, .int .i64 xret, .slice ca xcalls.length cc, .slice fa xframes.length fc] 36)).heap[wo.heap.size]? = some (.cells #[.int .i64 xv, .int .u64 (xcode : Int), .int .i64 xoff, .int .i64 xret, .slice ca xcalls.length cc, .slice fa xframes.length fc] 36 (0, 0)) := blk_new _ _
      have hF1 : Fr [] wo (wo.alloc (.cells #[.int .i64 xv, .int .u64 (xcode : Int), .int .i64 xoff, .int .i64 xret, .slice ca xcalls.length cc, .slice fa xframes.length fc] 36)) := (Fr.refl _ _).alloc _
      generalize wo.alloc (.cells #[.int .i64 xv, .int .u64 (xcode : Int), .int .i64 xoff, .int .i64 xret, .slice ca xcalls.length cc, .slice fa xframes.length fc] 36) = w1 at *
      have k0 := blk_cell hB1 0
      have B1 := Lib.hid hB1
      have F1 := Lib.hid hF1
      have HO1 : Hid (w1.ownsRow w.heap.size 5 1 (.slice a out.length c) out.length (vbs out)) := own_fr Hown.out hF1 (by simp)
      clear hB1 hF1 d0 d1 d2 d3 d4 d5
      obtain ⟨y, hy⟩ : ∃ y, UInt8.ofNat xv.toNat = y := ⟨_, rfl⟩
      obtain ⟨b0, hb0⟩ : ∃ b0, leL 4294967295 4 = b0 := ⟨_, rfl⟩
      have hb0l : b0.length = 4 := by rw [← hb0]; exact leL_length 4 _
      have hyv : IntKind.u8.wrap xv = ((y.toNat : Nat) : Int) := by
        rw [← hy]; rcases q1 with rfl | rfl <;> rfl
      have Hy := Lib.hid hy
      have HB0 := Lib.hid hb0
      have Hb0l := Lib.hid hb0l
      have Hyv := Lib.hid hyv
      clear hy hb0 hb0l hyv
      go_cut [7] from 19 to 24 (fun s7 wx => Own w1 (b0 ++ [y, 0]) s7 wx)
      case first =>
        as_aux_lemma =>
        have hyv := Hyv.out
        go_region_held3 (fun w' => w'.cell? ⟨wo.heap.size, 0, none⟩ = some (.int .i64 xv)) (first | assumption | exact Hf4.out.cell (by assumption) Hn4.out | exact Hf3.out.cell (by assumption) (by simp) | exact ((Fr.refl [] _).alloc _).cell (by assumption) (by simp))
          (first | (go_at_call 17; refine (Little_ints 4294967295 4 _ _ (by rfl) (by rfl) (by decide) (by decide) _).mono ?_; rw [HB0.out]; rintro e w3 ⟨a3, c3, rfl, ho3, hf3⟩; have Ho3 : Hid (w3.ownsRow w1.heap.size 5 1 (.slice a3 b0.length c3) b0.length (vbs b0)) := own_base ho3 (by first | exact Nat.le_refl _ | (simp; done) | (simp; omega)); have Hf3 := Lib.hid hf3; clear ho3 hf3) | (refine step_app2 sliceB _ (by rfl) _ _ (by rfl) w1.heap.size _ b0.length (vbs b0) (by rfl) (own_fr Ho3.out ((Fr.refl [] w3).alloc _) (by simp)) (some ⟨_, 0, none⟩) 2 2 (vbs [y, 0]) (by rfl) (by rfl) (by simp) (news_blk (blk_new w3 _)) (vbs_one _) (by rw [Hb0l.out]; decide) (by decide) (by have := Hf3.out.size; simp at this ⊢; omega) ?_; intro a4 c4 w4 ho4 hf4 hg4; have HF4 : Hid (Fr [] w1 w4) := Fr.app ((((Fr.refl [] w1).drew).then Hf3.out).alloc _) Ho3.out (Nat.le_refl _) hf4; have Ho4 := Lib.hid ho4; have Hf4 := Lib.hid hf4; have Hn4 : Hid (wo.heap.size ∉ (Value.slice a3 b0.length c3).ownBlock.toList) := (fun h => by have h1 := own_ge Ho3.out (by simpa using h); have h2 := lt_heap B1.out; omega); clear ho4 hf4 hg4) | (refine step_app2 sliceB _ (by rfl) _ _ (by rfl) w1.heap.size _ b0.length (vbs b0) (by rfl) Ho3.out (some ⟨_, 0, none⟩) 2 2 (vbs [y, 0]) (by rfl) (by rfl) (by simp) (news_blk (Hf3.out.get (blk_new w1.drew _) (by simp))) (vbs_one _) (by rw [Hb0l.out]; decide) (by decide) (by have := Hf3.out.size; simp at this ⊢; omega) ?_; intro a4 c4 w4 ho4 hf4 hg4; have HF4 : Hid (Fr [] w1 w4) := Fr.app ((((Fr.refl [] w1).drew).alloc _).then Hf3.out) Ho3.out (Nat.le_refl _) hf4; have Ho4 := Lib.hid ho4; have Hf4 := Lib.hid hf4; have Hn4 : Hid (wo.heap.size ∉ (Value.slice a3 b0.length c3).ownBlock.toList) := (fun h => by have h1 := own_ge Ho3.out (by simpa using h); have h2 := lt_heap B1.out; omega); clear ho4 hf4 hg4))
        all_goals
          go_wp2_with fail
          go_meet
          exact Own.of Ho4.out HF4.out
      case rest =>
        clear k0
        obtain ⟨a7, c7, rfl, ho7, hf7⟩ := hcut
        have hl7 : (b0 ++ [y, 0]).length = 6 := by rw [List.length_append, Hb0l.out]; rfl
        have hb7 := hf7.get B1.out (by simp)
        have k1 := blk_cell hb7 1
        have k2 := blk_cell hb7 2
        have k3 := blk_cell hb7 3
        obtain ⟨L7, hL7⟩ : ∃ L7, b0 ++ [y, 0] = L7 := ⟨_, rfl⟩
        rw [hL7] at ho7 hl7 ⊢
        have R7 : Hid (OwnR w1 wc a7 L7.length c7 L7) := ⟨rfl, ho7, hf7⟩
        have HL7 := Lib.hid hL7
        have hle7 : L7.length ≤ 6 := by omega
        obtain ⟨r, rfl⟩ := Int.eq_ofNat_of_zero_le q6
        have hwr : IntKind.u64.wrap (r : Int) = (r : Int) := by simp [IntKind.wrap, IntKind.signed, IntKind.bits]; omega
        have e1 := uleb_le10 (n := xcode) (by omega)
        have e2 := sleb_le10 (n := xoff) (by omega) (by omega)
        have e3 := uleb_le10 (n := r) (by omega)
        have HK : Hid (∀ w', Fr [] w1 w' → w'.cell? ⟨wo.heap.size, 1, none⟩ = some (.int .u64 (xcode : Int)) ∧ w'.cell? ⟨wo.heap.size, 2, none⟩ = some (.int .i64 xoff) ∧ w'.cell? ⟨wo.heap.size, 3, none⟩ = some (.int .i64 (r : Int))) :=
          fun w' f => ⟨blk_cell (f.get B1.out (by simp)) 1, blk_cell (f.get B1.out (by simp)) 2, blk_cell (f.get B1.out (by simp)) 3⟩
        clear hL7 ho7 hf7 hl7 hb7
        obtain ⟨LT, hLT⟩ : ∃ LT, L7 ++ uleb xcode ++ sleb xoff ++ uleb r = LT := ⟨_, rfl⟩
        have hnT : LT.length ≤ 36 := by rw [← hLT]; simp; omega
        have HLT := Lib.hid hLT
        clear hLT
        go_upto_region 7 with (fail)
        go_cut [7] from 25 to 38 (fun s7 wx => ∃ a n c, s7 = .slice a n c ∧ OwnR w1 wx a n c LT)
        case first =>
          as_aux_lemma =>
          go_region_held3 (fun w' => w'.cell? ⟨wo.heap.size, 1, none⟩ = some (.int .u64 (xcode : Int)) ∧ w'.cell? ⟨wo.heap.size, 2, none⟩ = some (.int .i64 xoff) ∧ w'.cell? ⟨wo.heap.size, 3, none⟩ = some (.int .i64 (r : Int)))
            (first | exact HK.out _ R6.out.fr | exact HK.out _ R5.out.fr | exact HK.out _ R4.out.fr | exact HK.out _ R3.out.fr | exact HK.out _ R2.out.fr | exact HK.out _ R1.out.fr | exact HK.out _ R7.out.fr.drew)
            (first | (have _t := R5; refine (OwnR.app_step R5.out SC.out (by rfl) _ _ (by rfl) (by rfl) (by rfl) (by omega) ?_); intro a6 c6 w6 ho6 hf6; have R6 := Lib.hid ho6; clear ho6 hf6)
                   | (have _t := R4; go_at_call 18; go_must (refine (Unsigned_any r (by omega) _).mono ?_); rintro e wC ⟨aC, cC, rfl, hoC, hfC⟩; have SC : Hid (Sl wC (.slice aC (uleb r).length cC) (vbs (uleb r))) := own_sl hoC; have R5 := Lib.hid (R4.out.call hfC); clear hoC hfC)
                   | (have _t := R3; refine (OwnR.app_step R3.out SB.out (by rfl) _ _ (by rfl) (by rfl) (by rfl) (by omega) ?_); intro a4 c4 w4 ho4 hf4; have R4 := Lib.hid ho4; clear ho4 hf4)
                   | (have _t := R2; go_at_call 19; go_must (refine (Signed_any xoff (by omega) (by omega) _).mono ?_); rintro e wB ⟨aB, cB, rfl, hoB, hfB⟩; have SB : Hid (Sl wB (.slice aB (sleb xoff).length cB) (vbs (sleb xoff))) := own_sl hoB; have R3 := Lib.hid (R2.out.call hfB); clear hoB hfB)
                   | (have _t := R1; refine (OwnR.app_step R1.out SA.out (by rfl) _ _ (by rfl) (by rfl) (by rfl) (by omega) ?_); intro a2 c2 w2 ho2 hf2; have R2 := Lib.hid ho2; clear ho2 hf2)
                   | (go_at_call 18; go_must (refine (Unsigned_any xcode (by omega) _).mono ?_); rintro e wA ⟨aA, cA, rfl, hoA, hfA⟩; have SA : Hid (Sl wA (.slice aA (uleb xcode).length cA) (vbs (uleb xcode))) := own_sl hoA; have R1 : Hid (OwnR w1 wA a7 L7.length c7 L7) := R7.out.call ((Fr.refl [] _).drew.then hfA); clear hoA hfA))
          all_goals
            go_wp2_with fail
            go_meet
            exact ⟨_, _, _, rfl, HLT.out ▸ R6.out⟩
        case rest =>
          clear HK k1 k2 k3 R7
          obtain ⟨aT, nT, cT, rfl, hoT⟩ := hcut
          have RT := Lib.hid hoT
          have hnT2 : nT ≤ 36 := by rw [hoT.len]; exact hnT
          have k4 := blk_cell (hoT.fr.get B1.out (by simp)) 4
          clear hoT
          have HF1 : Hid (Fr [] W wc) := ((Hw.out.then Hfr.out).then F1.out).then RT.out.fr
          have HCL : Hid (RSl 4 (RCall W) W (.slice ca xcalls.length cc) xcalls) := Hs.out.2.2.1
          have HFL : Hid (RSl 3 (RFrame W) W (.slice fa xframes.length fc) xframes) := Hs.out.2.2.2.1
          have HCR : Hid (∀ x ∈ xcalls, ccB x = true) := Hs.out.2.2.2.2.1
          have HFRR : Hid (∀ f ∈ xframes, frB f = true) := Hs.out.2.2.2.2.2
          have hcl : (callsL xcalls).length ≤ 2820 := by
            have := callsL_len xcalls (fun x hx => callL_len x (cc_right (HCR.out x hx)) (rcall_all HCL.out x hx).1 (rcall_all HCL.out x hx).2)
            omega
          have hob : out.length ≤ 400000 := by omega
          have HRO : Hid (OwnR w wc a out.length c out) := ⟨rfl, own_fr HO1.out RT.out.fr (by simp), (Hfr.out.then F1.out).then RT.out.fr⟩
          go_wp2_with (go_at_call 21; go_must (refine (calls_any W _ xcalls _ HCL.out HF1.out (by omega) (fun x hx => cc_right (HCR.out x hx))).mono ?_))
          rintro e w8 ⟨a8, c8, rfl, ho8, hf8⟩
          have S8 := Lib.hid (own_sl ho8)
          have R8 := Lib.hid (RT.out.call hf8)
          have HF8 := Lib.hid hf8
          clear ho8 hf8
          go_wp2_with (at_builtin; go_must (refine OwnR.app_list R8.out S8.out rfl _ _ rfl rfl rfl (by omega) ?_))
          intro a9 c9 w9 ho9 hf9
          have R9 := Lib.hid ho9
          clear ho9 hf9
          go_wp2_with (go_at_call 20; go_must (refine (padded_own R9.out (by omega)).mono ?_))
          rintro e w10 ⟨a10, c10, rfl, ho10⟩
          have hcie : LT ++ callsL xcalls = cieL ⟨xv, xcode, xoff, r, xcalls, xframes⟩ := by
            rw [← HLT.out, ← HL7.out, ← HB0.out, ← Hy.out]; rfl
          rw [hcie] at ho10 ⊢
          have hcl2 := cieL_len Hs.out.2.1 (rcall_all HCL.out)
          have hcl3 := padL_len (cieL ⟨xv, xcode, xoff, r, xcalls, xframes⟩)
          have R10 := Lib.hid ho10
          have S10 := Lib.hid ho10.sl
          have RO10 : Hid (OwnR w w10 a out.length c out) := ⟨rfl, own_fr HO1.out ho10.fr (by simp), (Hfr.out.then F1.out).then ho10.fr⟩
          obtain ⟨LC, hLC⟩ : ∃ LC, padL (cieL ⟨xv, xcode, xoff, r, xcalls, xframes⟩) = LC := ⟨_, rfl⟩
          rw [hLC] at R10 S10 hcl3
          have HLC := Lib.hid hLC
          have hLCl : LC.length ≤ 2912 := by omega
          simp only [hLC]
          clear ho10 hcie hLC
          go_wp2_with (at_builtin; go_must (refine OwnR.app_list RO10.out S10.out rfl _ _ rfl rfl rfl (by omega) ?_))
          intro a11 c11 w11 ho11 hf11
          have R11 := Lib.hid ho11
          have hb11 : w11.heap[wo.heap.size]? = _ := hf11.get (R10.out.fr.get B1.out (by simp)) (fun h => by
            have h1 := (RO10.out.lt (by simpa using h)).2
            have h2 := Hfr.out
            have h3 := (OwnR.lt (w0 := w) (w := wo) ⟨rfl, Hown.out, Hfr.out⟩ (by simpa using h)).2
            omega)
          have k5 := blk_cell hb11 5
          clear ho11 hf11 hb11
          go_wp2_with fail
          clear RT HF1 HCL HCR hcl HRO S8 R8 HF8 R9 hcl2 S10 RO10 R10 k4 F1 HO1 B1
          go_loopw [3, 50] (fun v i wr => ∃ j : Nat, ∃ a n c, j ≤ xframes.length ∧ i = .int .i64 (j : Int) ∧ v = .slice a n c ∧ n ≤ out.length + 3000 + j * 5800 ∧
              OwnR w wr a n c (out ++ LC ++ framesL out.length (xframes.take j))) (fun _ i _ => xframes.length - (intOf i).toNat)
          case atStart => exact ⟨0, _, _, _, Nat.zero_le _, rfl, rfl, by omega, by simpa [framesL] using R11.out⟩
          case round =>
            obtain ⟨wi, rfl⟩ : ∃ wi : World, wi = wr := ⟨_, rfl⟩
            obtain ⟨j, ai, ni, ci, hj, rfl, rfl, hni, hoi⟩ := hrel
            have Hoi := Lib.hid hoi
            clear hoi R11 k5
            by_cases hjt : j < xframes.length
            case neg =>
              obtain rfl : j = xframes.length := by omega
              clear hjt
              go_wp2
              go_roundw
              case rel =>
                have e : secFrom 0 (l.take (k + 1)) = out ++ LC ++ framesL out.length (xframes.take xframes.length) := by
                  rw [List.take_length, Hs.out.1, entL, List.append_assoc, ← HLC.out]; rfl
                have e2 := Hoi.out.len
                rw [← e] at e2
                subst e2
                refine ⟨k + 1, secFrom 0 (l.take (k + 1)), ai, ci, by omega, rfl, by go_num, rfl, by omega, ?_, Hoi.out.fr⟩
                have := Hoi.out.own; rw [← e] at this; exact this
              case measure => simp [intOf]; omega
            case pos =>
              obtain ⟨gf, of, da, dc, rfl, d0, d1, d2, hd, hz1, hz2⟩ := frame_at HFL.out (Hw.out.then Hoi.out.fr) j hjt
              have hstep := framesL_take out.length xframes j hjt
              have hfrr := HFRR.out _ (List.getElem_mem hjt)
              generalize xframes[j] = x at *
              obtain ⟨xb, xs, xc⟩ := x
              simp only at d0 d1 d2
              obtain ⟨q21, q22, q23, q24, q25⟩ := fr_facts hfrr
              simp only at q21 q22 q23 q24 q25
              have Hs2 := Lib.hid (And.intro hstep (And.intro hfrr (And.intro hd q25)))
              clear hstep hfrr hd q25 q21
              go_upto_region 12 with (fail)
              have hB2 : (wi.alloc (.cells #[.int .u64 (xb : Int), .int .u64 (xs : Int), .slice da xc.length dc] 38)).heap[wi.heap.size]? = some (.cells #[.int .u64 (xb : Int), .int .u64 (xs : Int), .slice da xc.length dc] 38 (0, 0)) := blk_new _ _
              have hF2 : Fr [] wi (wi.alloc (.cells #[.int .u64 (xb : Int), .int .u64 (xs : Int), .slice da xc.length dc] 38)) := (Fr.refl _ _).alloc _
              generalize wi.alloc (.cells #[.int .u64 (xb : Int), .int .u64 (xs : Int), .slice da xc.length dc] 38) = w2 at *
              have k0 := blk_cell hB2 0
              have k1 := blk_cell hB2 1
              have B2 := Lib.hid hB2
              have F2 := Lib.hid hF2
              have hwo : IntKind.u64.wrap (out.length : Int) = (out.length : Int) := by simp [IntKind.wrap, IntKind.signed, IntKind.bits]; omega
              have hl1 := leL_length 4 out.length
              have hl2 := leL_length 8 xb
              have hl3 := leL_length 8 xs
              obtain ⟨L1, hL1⟩ : ∃ L, leL out.length 4 = L := ⟨_, rfl⟩
              obtain ⟨L2, hL2⟩ : ∃ L, leL xb 8 = L := ⟨_, rfl⟩
              obtain ⟨L3, hL3⟩ : ∃ L, leL xs 8 = L := ⟨_, rfl⟩
              rw [hL1] at hl1
              rw [hL2] at hl2
              rw [hL3] at hl3
              have HL1 := Lib.hid hL1
              have HL2 := Lib.hid hL2
              have HL3 := Lib.hid hL3
              have hm1 : L1.length ≤ 4 := by omega
              have hm2 : L2.length ≤ 8 := by omega
              have hm3 : L3.length ≤ 8 := by omega
              have HOB : Hid (out.length < 18446744073709551616) := by show _ < _; omega
              have HZ1 := Lib.hid hz1
              have HZ2 := Lib.hid hz2
              have HK : Hid (∀ w', Fr [] w2 w' → w'.cell? ⟨wi.heap.size, 0, none⟩ = some (.int .u64 (xb : Int)) ∧ w'.cell? ⟨wi.heap.size, 1, none⟩ = some (.int .u64 (xs : Int))) :=
                fun w' f => ⟨blk_cell (f.get B2.out (by simp)) 0, blk_cell (f.get B2.out (by simp)) 1⟩
              clear hB2 hF2 hL1 hL2 hL3 hl1 hl2 hl3 d0 d1 d2 hz1 hz2
              go_cut [10] from 54 to 64 (fun s10 wx => ∃ a n c, s10 = .slice a n c ∧ OwnR w2 wx a n c (L1 ++ L2 ++ L3))
              case first =>
                as_aux_lemma =>
                go_region_held3 (fun w' => w'.cell? ⟨wi.heap.size, 0, none⟩ = some (.int .u64 (xb : Int)) ∧ w'.cell? ⟨wi.heap.size, 1, none⟩ = some (.int .u64 (xs : Int)))
                  (first | exact HK.out _ R5.out.fr | exact HK.out _ R4.out.fr | exact HK.out _ R3.out.fr | exact HK.out _ R2.out.fr | exact HK.out _ R1.out.fr | exact HK.out _ ((Fr.refl _ _).drew))
                  (first | (refine (OwnR.app_step R4.out SC.out (by rfl) _ _ (by rfl) (by rfl) (by rfl) (by omega) ?_); intro a6 c6 w6 ho6 hf6; have R5 := Lib.hid ho6; clear ho6 hf6)
                         | (have _t := R3; go_at_call 17; go_must (refine (Little_ints xs 8 _ _ (by rfl) (by rfl) HZ2.out (by decide) _).mono ?_); rw [HL3.out]; rintro e wC ⟨aC, cC, rfl, hoC, hfC⟩; have SC : Hid (Sl wC (.slice aC L3.length cC) (vbs L3)) := own_sl hoC; have R4 := Lib.hid (R3.out.call hfC); clear hoC hfC)
                         | (refine (OwnR.app_step R2.out SB.out (by rfl) _ _ (by rfl) (by rfl) (by rfl) (by omega) ?_); intro a4 c4 w4 ho4 hf4; have R3 := Lib.hid ho4; clear ho4 hf4)
                         | (have _t := R1; go_at_call 17; go_must (refine (Little_ints xb 8 _ _ (by rfl) (by rfl) HZ1.out (by decide) _).mono ?_); rw [HL2.out]; rintro e wB ⟨aB, cB, rfl, hoB, hfB⟩; have SB : Hid (Sl wB (.slice aB L2.length cB) (vbs L2)) := own_sl hoB; have R2 := Lib.hid (R1.out.call hfB); clear hoB hfB)
                         | (go_at_call 17; go_must (refine (Little_ints out.length 4 _ _ (by rfl) (by rfl) HOB.out (by decide) _).mono ?_); rw [HL1.out]; rintro e wA ⟨aA, cA, rfl, hoA, hfA⟩; have R1 := Lib.hid (OwnR.made (Fr.drew (Fr.refl [] w2)) hoA hfA); clear hoA hfA))
                all_goals
                  go_wp2_with fail
                  go_meet
                  exact ⟨_, _, _, rfl, R5.out⟩
              case rest =>
                clear HK k0 k1
                obtain ⟨aT2, nT2, cT2, rfl, hoT2⟩ := hcut
                have RT2 := Lib.hid hoT2
                have hnT3 : nT2 ≤ 20 := by rw [hoT2.len]; simp; omega
                have k2 := blk_cell (hoT2.fr.get B2.out (by simp)) 2
                have HF2 : Hid (Fr [] W wc) := ((Hw.out.then Hoi.out.fr).then F2.out).then hoT2.fr
                clear hoT2
                have HXL : Hid (RSl 4 (RCall W) W (.slice da xc.length dc) xc) := Hs2.out.2.2.1
                have HXR : Hid (∀ x ∈ xc, cfB x = true) := Hs2.out.2.2.2
                have hxl : (callsL xc).length ≤ 5640 := by
                  have := callsL_len xc (fun x hx => callL_len x (cf_right (HXR.out x hx)) (rcall_all HXL.out x hx).1 (rcall_all HXL.out x hx).2)
                  omega
                have Rout : Hid (OwnR w w2 ai ni ci (out ++ LC ++ framesL out.length (xframes.take j))) := Hoi.out.call F2.out
                have Routc : Hid (OwnR w wc ai ni ci (out ++ LC ++ framesL out.length (xframes.take j))) := Rout.out.call RT2.out.fr
                go_wp2_with (go_at_call 21; go_must (refine (calls_any W _ xc _ HXL.out HF2.out (by omega) (fun x hx => cf_right (HXR.out x hx))).mono ?_))
                rintro e w8 ⟨a8, c8, rfl, ho8, hf8⟩
                have S8 := Lib.hid (own_sl ho8)
                have R8 := Lib.hid (RT2.out.call hf8)
                clear ho8 hf8
                go_wp2_with (at_builtin; go_must (refine OwnR.app_list R8.out S8.out rfl _ _ rfl rfl rfl (by omega) ?_))
                intro a9 c9 w9 ho9 hf9
                have R9 := Lib.hid ho9
                clear ho9 hf9
                go_wp2_with (go_at_call 20; go_must (refine (padded_own R9.out (by omega)).mono ?_))
                rintro e w10 ⟨a10, c10, rfl, ho10⟩
                have hfde : L1 ++ (L2 ++ (L3 ++ callsL xc)) = fdeL out.length ⟨xb, xs, xc⟩ := by
                  rw [← HL1.out, ← HL2.out, ← HL3.out]; simp [fdeL]
                rw [hfde] at ho10 ⊢
                have hxl2 := fdeL_len (n := out.length) Hs2.out.2.1 (rcall_all HXL.out)
                have hxl3 := padL_len (fdeL out.length ⟨xb, xs, xc⟩)
                have S10 := Lib.hid ho10.sl
                have RO10 : Hid (OwnR w w10 ai ni ci (out ++ LC ++ framesL out.length (xframes.take j))) := Rout.out.call ho10.fr
                obtain ⟨LF, hLF⟩ : ∃ LF, padL (fdeL out.length ⟨xb, xs, xc⟩) = LF := ⟨_, rfl⟩
                rw [hLF] at S10 hxl3
                have HLF := Lib.hid hLF
                have hLFl : LF.length ≤ 5712 := by omega
                simp only [hLF]
                clear ho10 hfde hLF hxl3
                go_wp2_with (at_builtin; go_must (refine OwnR.app_list RO10.out S10.out rfl _ _ rfl rfl rfl (by omega) ?_))
                intro a11 c11 w11 ho11 hf11
                have R11 := Lib.hid ho11
                clear ho11 hf11
                go_wp2_with fail
                go_roundw
                case rel =>
                  refine ⟨j + 1, a11, _, c11, by omega, by go_num, rfl, by omega, ?_⟩
                  rw [Hs2.out.1, HLF.out]; simpa [List.append_assoc] using R11.out
                case measure => simp [intOf]; omega
end Go.Proofs.YtahohmdfllgedaaGreat

namespace Go.Proofs.YtahohmdfllgedaaGreat
open Go.RowKit

def allFr (l : List LCommon) : List LFrame := l.flatMap fun c => c.frames
theorem allFr_take (l : List LCommon) (k : Nat) (hk : k < l.length) : allFr (l.take (k + 1)) = allFr (l.take k) ++ l[k].frames := by
  rw [allFr, List.take_succ_eq_append_getElem hk, List.flatMap_append]; simp [allFr]
/-- Frames stand in growing order, and do not overlap. -/
def Apart (l : List LFrame) : Prop := ∀ i j, j < i → ∀ (hi : i < l.length) (hj : j < l.length), l[j].start + l[j].size ≤ l[i].start

def IsSl (v : Value) : Prop := ∃ a n c, v = .slice a n c
abbrev FC := Nat × Nat × Value
def cellsOf (ps : List FC) : List Value := ps.flatMap fun p => [.int .u64 (p.1 : Int), .int .u64 (p.2.1 : Int), p.2.2]
theorem cellsOf_app (ps qs : List FC) : cellsOf (ps ++ qs) = cellsOf ps ++ cellsOf qs := by simp [cellsOf]
theorem cellsOf_len (ps : List FC) : (cellsOf ps).length = ps.length * 3 := by
  induction ps with
  | nil => rfl
  | cons p ps ih => simp [cellsOf] at ih ⊢; omega
theorem cellsOf_get (ps : List FC) : ∀ i (h : i < ps.length), (cellsOf ps)[i * 3]? = some (.int .u64 (ps[i].1 : Int)) ∧ (cellsOf ps)[i * 3 + 1]? = some (.int .u64 (ps[i].2.1 : Int)) ∧ (cellsOf ps)[i * 3 + 2]? = some ps[i].2.2 := by
  induction ps with
  | nil => intro i h; simp at h
  | cons p ps ih =>
    intro i h
    cases i with
    | zero => exact ⟨rfl, rfl, rfl⟩
    | succ i =>
      have := ih i (by simpa using h)
      have e : ∀ r, (cellsOf (p :: ps))[(i + 1) * 3 + r]? = (cellsOf ps)[i * 3 + r]? := by
        intro r
        rw [show (i + 1) * 3 + r = i * 3 + r + 1 + 1 + 1 by omega]; rfl
      exact ⟨(e 0).trans this.1, (e 1).trans this.2.1, (e 2).trans this.2.2⟩
theorem cellsOf_one (ps : List FC) (h : ∀ p ∈ ps, IsSl p.2.2) : ∀ u ∈ cellsOf ps, u.oneCell' = true := by
  intro u hu
  obtain ⟨p, hp, hu⟩ := List.mem_flatMap.1 hu
  simp at hu
  rcases hu with rfl | rfl | rfl
  · rfl
  · rfl
  · obtain ⟨_, _, _, e⟩ := h p hp; rw [e]; rfl

/-- The cells of a row of frames that came in. -/
theorem frames_cells {W : World} {a : Option Addr} {n c : Nat} {l : List LFrame} (h : RSl 3 (RFrame W) W (.slice a n c) l) :
    n = l.length ∧ (a = none → n = 0 ∧ c = 0) ∧ ∃ ps : List FC, ps.map (fun p => (p.1, p.2.1)) = l.map (fun f => (f.start, f.size)) ∧ (∀ p ∈ ps, IsSl p.2.2) ∧
      ∀ ad, a = some ad → ∀ j u, (cellsOf ps)[j]? = some u → W.cell? (ad.add j) = some u := by
  rcases h with ⟨hv, rfl⟩ | ⟨x, c', hv, h1, h2, h3⟩
  · simp only [Value.slice.injEq] at hv
    obtain ⟨rfl, rfl, rfl⟩ := hv
    exact ⟨rfl, fun _ => ⟨rfl, rfl⟩, [], rfl, by simp, fun ad h => by cases h⟩
  · simp only [Value.slice.injEq] at hv
    obtain ⟨rfl, rfl, rfl⟩ := hv
    refine ⟨rfl, fun h => (by cases h), ?_⟩
    have hd : ∀ i : Fin l.length, ∃ dv : Value, IsSl dv ∧ W.cell? (x.add (i.val * 3)) = some (.int .u64 (l[i].start : Int)) ∧ W.cell? (x.add (i.val * 3 + 1)) = some (.int .u64 (l[i].size : Int)) ∧ W.cell? (x.add (i.val * 3 + 2)) = some dv := by
      intro i
      obtain ⟨vs, -, ⟨cv, rfl, hr, -, -⟩, hc⟩ := h3 i.val i.isLt
      obtain ⟨b, d, rfl⟩ := rsl_form hr
      exact ⟨_, ⟨_, _, _, rfl⟩, hc 0 _ rfl, hc 1 _ rfl, hc 2 _ rfl⟩
    obtain ⟨dv, hdv⟩ := Classical.axiomOfChoice hd
    refine ⟨List.ofFn fun i : Fin l.length => (l[i].start, l[i].size, dv i), ?_, ?_, ?_⟩
    · apply List.ext_getElem
      · simp
      · intro i h1 h2; simp
    · intro p hp
      obtain ⟨i, rfl⟩ := (List.mem_ofFn).1 hp
      exact (hdv i).1
    · intro ad had j u hj
      obtain rfl := Option.some.inj had
      have hlt : j < l.length * 3 := by
        have := (List.getElem?_eq_some_iff.1 hj).1
        rw [cellsOf_len] at this; simpa using this
      have hi : j / 3 < l.length := by omega
      have hg := cellsOf_get (List.ofFn fun i : Fin l.length => (l[i].start, l[i].size, dv i)) (j / 3) (by simpa using hi)
      have hs := hdv ⟨j / 3, hi⟩
      simp only [List.getElem_ofFn] at hg
      have hm : j % 3 = 0 ∨ j % 3 = 1 ∨ j % 3 = 2 := by omega
      rcases hm with hm | hm | hm
      · have e : j / 3 * 3 = j := by omega
        have e2 := hg.1
        rw [e, hj] at e2
        rw [Option.some.inj e2]; have := hs.2.1; simp only [e] at this; exact this
      · have e : j / 3 * 3 + 1 = j := by omega
        have e2 := hg.2.1
        rw [e, hj] at e2
        rw [Option.some.inj e2]; have := hs.2.2.1; simp only [e] at this; exact this
      · have e : j / 3 * 3 + 2 = j := by omega
        have e2 := hg.2.2
        rw [e, hj] at e2
        rw [Option.some.inj e2]; have := hs.2.2.2; simp only [e] at this; exact this

theorem sliceF : SliceT Tryz.prog 34 38 (.agg #[.int .u64 0, .int .u64 0, .slice none 0 0]) 3 40 := ⟨Tryz.underlying34, by kernel_rfl, rfl, by decide⟩

/-- A row of frames of the call's own, read. -/
theorem own_frames {w : World} {base : Nat} {a : Option Addr} {c : Nat} {ps : List FC} (h : w.ownsRow base 38 3 (.slice a ps.length c) ps.length (cellsOf ps)) (i : Nat) (hi : i < ps.length) :
    ∃ g, a = some ⟨g, 0, none⟩ ∧ ps.length ≤ c ∧ c ≤ maxLen ∧ ∀ j (hj : j < ps.length), w.cell? ⟨g, j * 3, none⟩ = some (.int .u64 (ps[j].1 : Int)) ∧ w.cell? ⟨g, j * 3 + 1, none⟩ = some (.int .u64 (ps[j].2.1 : Int)) ∧ w.cell? ⟨g, j * 3 + 2, none⟩ = some ps[j].2.2 := by
  have hc := fun (g : Nat) (hg : (Value.slice a ps.length c).ownBlock = some g) => h.cells (g := g) hg
  rcases h.2 with ⟨hv, h0⟩ | ⟨g, cap, cur, hv, hb, hg, hnc, hcm, hcs, htake⟩
  · simp at hv; omega
  · simp only [Value.slice.injEq] at hv
    obtain ⟨rfl, -, rfl⟩ := hv
    refine ⟨g, rfl, hnc, hcm, fun j hj => ?_⟩
    have hh := cellsOf_get ps j hj
    have hc2 := hc g rfl
    simp only [Addr.add_lit, Nat.zero_add] at hc2
    exact ⟨hc2 _ _ hh.1, hc2 _ _ hh.2.1, hc2 _ _ hh.2.2⟩

set_option maxRecDepth 100000 in
set_option maxHeartbeats 4000000 in
theorem apart_any (W : World) (v : Value) (l : List LCommon) (w : World) (h : RList W v l) (hw : Fr [] W w) (hl : l.length ≤ 8) (hr : ∀ c ∈ l, rcB c = true) :
    Calls Tryz.prog 7 #[v] w fun e w' => ∃ b : Bool, e = .returned (.bool b) ∧ (b = true → Apart (allFr l)) ∧ Fr [] w w' := by
  obtain ⟨a0, c0, rfl, h1, h2⟩ := RSl.shape h
  have H := Lib.hid h
  have Hw := Lib.hid hw
  have Hr := Lib.hid hr
  clear h hw hr
  go_enter Tryz.func7, Tryz.ntmps7
  go_wp2_with fail
  go_loopw [3, 12] (fun v i wr => ∃ k : Nat, ∃ ps : List FC, ∃ a c, k ≤ l.length ∧ ps.map (fun p => (p.1, p.2.1)) = (allFr (l.take k)).map (fun f => (f.start, f.size)) ∧ i = .int .i64 (k : Int) ∧ v = .slice a ps.length c ∧
      ps.length ≤ 8 * k ∧ wr.ownsRow w.heap.size 38 3 (.slice a ps.length c) ps.length (cellsOf ps) ∧ (∀ p ∈ ps, IsSl p.2.2) ∧ Fr [] w wr) (fun _ i _ => l.length - (intOf i).toNat)
  case atStart => exact ⟨0, [], none, 0, Nat.zero_le _, rfl, rfl, rfl, Nat.zero_le _, World.ownsRow_nil _ _ _ _, by simp, Fr.refl _ _⟩
  case round =>
    obtain ⟨wo, rfl⟩ : ∃ wo : World, wo = wr := ⟨_, rfl⟩
    obtain ⟨k, ps, a, c, hk, hps, rfl, rfl, hlen, hown, hone, hfr⟩ := hrel
    have Hps := Lib.hid hps
    have Hown := Lib.hid hown
    have Hone := Lib.hid hone
    have Hfr := Lib.hid hfr
    clear hps hown hone hfr
    by_cases hlt : k < l.length
    case pos =>
      as_aux_lemma =>
      obtain ⟨g, o, ca, cc, fa, fc, rfl, d0, d1, d2, d3, d4, d5, hd, he, hi1, hi2, hi3, hi4⟩ := common_at H.out (Hw.out.then Hfr.out) k hlt
      have hstep := allFr_take l k hlt
      have hq := rc_facts (Hr.out _ (List.getElem_mem hlt))
      generalize l[k] = x at *
      obtain ⟨xv, xcode, xoff, xret, xcalls, xframes⟩ := x
      simp only at d0 d1 d2 d3 d4 d5 hd he hq hstep
      have hq8 := hq.2.2.2.2.2.2.2.1
      obtain ⟨-, hn0, qs, hqs, hq1, hqc⟩ := frames_cells he
      have hql : qs.length = xframes.length := by have := congrArg List.length hqs; simpa using this
      have HS := Lib.hid (And.intro hstep hqs)
      have HQ := Lib.hid hq1
      have HN := Lib.hid hn0
      have HC := Lib.hid hqc
      clear hstep hqs hq he hd hn0 hq1 hqc hi1 hi2 hi3 hi4
      have own2 : ∀ o : Obj, (wo.alloc o).ownsRow w.heap.size 38 3 (.slice a ps.length c) ps.length (cellsOf ps) := fun o => Hown.out.alloc o
      have HO2 := Lib.hid own2
      clear own2
      go_wp2_with (at_builtin; go_must (refine wpList_app2 sliceF _ rfl _ _ rfl w.heap.size _ ps.length (cellsOf ps) rfl (HO2.out _) fa xframes.length fc (cellsOf qs) rfl (by rw [cellsOf_len]; omega) HN.out (fun ad had j u hj => (((Hw.out.then Hfr.out).alloc _).cell (HC.out ad had j u hj) (by simp))) (cellsOf_one qs HQ.out) (by omega) (by decide) (by have := Hfr.out.size; simp; omega) ?_))
      intro a' c' w1 ho1 hf1 hg1
      have Ho1 := Lib.hid ho1
      have Hf1 := Lib.hid hf1
      clear ho1 hf1 hg1
      go_wp2
      go_roundw
      case rel =>
        refine ⟨k + 1, ps ++ qs, a', c', by omega, ?_, by go_num, by rw [List.length_append, hql], by rw [List.length_append]; omega, ?_, ?_, ?_⟩
        · rw [HS.out.1, List.map_append, List.map_append, Hps.out, HS.out.2]
        · rw [List.length_append, hql, cellsOf_app]; exact Ho1.out
        · intro p hp; rcases List.mem_append.1 hp with h | h
          · exact Hone.out p h
          · exact HQ.out p h
        · exact (Hfr.out.alloc _).app (own_fr Hown.out (Fr.refl [] wo) (by simp)) (Nat.le_refl _) Hf1.out
      case measure => simp [intOf]; omega
    case neg =>
      obtain rfl : k = l.length := by omega
      clear hlt
      have hb : ∀ i (hi : i < ps.length), ps[i].1 ≤ 1099511627776 ∧ ps[i].2.1 ≤ 1048576 := by
        intro i hi
        have e := Hps.out
        rw [List.take_length] at e
        have hl2 : (allFr l).length = ps.length := by have := congrArg List.length e; simpa using this.symm
        have e2 : (ps.map (fun p => (p.1, p.2.1)))[i]? = ((allFr l).map (fun f => (f.start, f.size)))[i]? := by rw [e]
        simp [hi, hl2] at e2
        have hm : (allFr l)[i]'(by omega) ∈ allFr l := List.getElem_mem _
        obtain ⟨cc, hc1, hc2⟩ := List.mem_flatMap.1 hm
        have := fr_facts ((rc_facts (Hr.out _ hc1)).2.2.2.2.2.2.2.2.2.2 _ hc2)
        omega
      have hfin : (∀ i j, j < i → ∀ (hi : i < ps.length) (hj : j < ps.length), ps[j].1 + ps[j].2.1 ≤ ps[i].1) → Apart (allFr l) := by
        intro hh i j hji hi hj
        have e := Hps.out
        rw [List.take_length] at e
        have hl2 : (allFr l).length = ps.length := by have := congrArg List.length e; simpa using this.symm
        have e2 : ∀ i : Nat, (ps.map (fun p => (p.1, p.2.1)))[i]? = ((allFr l).map (fun f => (f.start, f.size)))[i]? := by rw [e]; simp
        have ei := e2 i
        have ej := e2 j
        simp [hi, hj, hl2 ▸ hi, hl2 ▸ hj] at ei ej
        have := hh i j hji (by omega) (by omega)
        omega
      have HB := Lib.hid hb
      have HFIN := Lib.hid hfin
      clear hb hfin
      go_wp2_with fail
      go_loopw [23] (fun s wr => ∃ i : Nat, i ≤ ps.length ∧ s = .int .i64 (i : Int) ∧ (∀ i' j, i' < i → j < i' → ∀ (hi : i' < ps.length) (hj : j < ps.length), ps[j].1 + ps[j].2.1 ≤ ps[i'].1) ∧ Fr [] wo wr) (fun s _ => ps.length - (intOf s).toNat)
      case atStart => exact ⟨0, Nat.zero_le _, rfl, fun i' _ h => by omega, Fr.refl _ _⟩
      case round =>
        obtain ⟨wi, rfl⟩ : ∃ wi : World, wi = wr := ⟨_, rfl⟩
        obtain ⟨i, hi, rfl, hall, hfi⟩ := hrel
        have Hall := Lib.hid hall
        have Hfi := Lib.hid hfi
        clear hall hfi
        by_cases hit : i < ps.length
        case neg =>
          obtain rfl : i = ps.length := by omega
          clear hit
          go_wp2
          go_ret
          exact ⟨true, rfl, fun _ => HFIN.out (fun i j hji hi hj => Hall.out i j hi hji hi hj), Hfr.out.then Hfi.out⟩
        case pos =>
          obtain ⟨g, rfl, hcap, hcm, hcell⟩ := own_frames (own_fr Hown.out Hfi.out (by simp)) i hit
          obtain ⟨d0, d1, d2⟩ := hcell i hit
          unfold maxLen at hcm
          have hbi := HB.out i hit
          have hia : (i : Int) ≤ (c : Int) := by omega
          have HC := Lib.hid hcell
          clear hcell
          obtain ⟨p, hp⟩ : ∃ p, ps[i] = p := ⟨_, rfl⟩
          rw [hp] at d0 d1 d2 hbi
          have HP := Lib.hid hp
          clear hp
          obtain ⟨pa, pn, pc, hpv⟩ : IsSl p.2.2 := by rw [← HP.out]; exact Hone.out _ (List.getElem_mem _)
          obtain ⟨pb, psz, pv⟩ := p
          simp only at d0 d1 d2 hbi hpv
          subst hpv
          obtain ⟨hbi1, hbi2⟩ := hbi
          go_wp2_with fail
          have hB1 : (wi.alloc (.cells #[.int .u64 (pb : Int), .int .u64 (psz : Int), .slice pa pn pc] 38)).heap[wi.heap.size]? = some (.cells #[.int .u64 (pb : Int), .int .u64 (psz : Int), .slice pa pn pc] 38 (0, 0)) := blk_new _ _
          have hF1 : Fr [] wi (wi.alloc (.cells #[.int .u64 (pb : Int), .int .u64 (psz : Int), .slice pa pn pc] 38)) := (Fr.refl _ _).alloc _
          generalize wi.alloc (.cells #[.int .u64 (pb : Int), .int .u64 (psz : Int), .slice pa pn pc] 38) = w1 at *
          have B1 := Lib.hid hB1
          have F1 := Lib.hid hF1
          clear hB1 hF1 d0 d1 d2
          go_loopw [32] (fun s wr => ∃ j : Nat, j ≤ i ∧ s = .int .i64 (j : Int) ∧ (∀ j', j' < j → ∀ (hj : j' < ps.length), ps[j'].1 + ps[j'].2.1 ≤ pb) ∧ Fr [] w1 wr) (fun s _ => i - (intOf s).toNat)
          case atStart => exact ⟨0, Nat.zero_le _, rfl, fun i' h => by omega, Fr.refl _ _⟩
          case round =>
            obtain ⟨wj, rfl⟩ : ∃ wj : World, wj = wr := ⟨_, rfl⟩
            obtain ⟨j, hj, rfl, hallj, hfj⟩ := hrel
            have Hallj := Lib.hid hallj
            have Hfj := Lib.hid hfj
            clear hallj hfj
            by_cases hjt : j < i
            case neg =>
              obtain rfl : j = i := by omega
              clear hjt
              go_wp2
              go_roundw
              case rel =>
                refine ⟨j + 1, by omega, by go_num, ?_, (Hfi.out.then F1.out).then Hfj.out⟩
                intro i' j' h1 h2 h3 h4
                by_cases hij : i' = j
                · subst hij; have := Hallj.out j' h2 h4; rw [HP.out]; exact this
                · exact Hall.out i' j' (by omega) h2 h3 h4
              case measure => simp [intOf]; omega
            case pos =>
              have hjl : j < ps.length := by omega
              obtain ⟨q0, q1, q2⟩ := HC.out j hjl
              have hbj := HB.out j hjl
              obtain ⟨q, hq⟩ : ∃ q, ps[j] = q := ⟨_, rfl⟩
              rw [hq] at q0 q1 q2 hbj
              have HQ := Lib.hid hq
              obtain ⟨qa, qn, qc, hqv⟩ : IsSl q.2.2 := by rw [← hq]; exact Hone.out _ (List.getElem_mem _)
              clear hq
              obtain ⟨qb, qsz, qv⟩ := q
              simp only at q0 q1 q2 hbj hqv
              subst hqv
              obtain ⟨hbj1, hbj2⟩ := hbj
              have f0 := (F1.out.then Hfj.out).cell q0 (by simp)
              have f1 := (F1.out.then Hfj.out).cell q1 (by simp)
              have f2 := (F1.out.then Hfj.out).cell q2 (by simp)
              have k0 : (wj.alloc (.cells #[.int .u64 (qb : Int), .int .u64 (qsz : Int), .slice qa qn qc] 38)).cell? ⟨wi.heap.size, 0, none⟩ = some (.int .u64 (pb : Int)) :=
                ((Hfj.out.alloc _).cell (blk_cell B1.out 0) (by simp))
              clear q0 q1 q2
              by_cases hc : (pb : Int) < (qb : Int) + (qsz : Int)
              · go_wp2_with fail
                go_ret
                exact ⟨false, rfl, (fun h => by cases h), ((Hfr.out.then Hfi.out).then F1.out).then (Hfj.out.alloc _)⟩
              · go_wp2_with fail
                go_roundw
                case rel =>
                  refine ⟨j + 1, by omega, by go_num, ?_, Hfj.out.alloc _⟩
                  intro j' h1 h2
                  by_cases hij : j' = j
                  · subst hij; rw [HQ.out]; show qb + qsz ≤ pb; omega
                  · exact Hallj.out j' (by omega) h2
                case measure => simp [intOf]; omega
end Go.Proofs.YtahohmdfllgedaaGreat

namespace Go.Proofs.YtahohmdfllgedaaGreat
open Go.RowKit

/-- The number that bytes stand for, the least first. -/
def leval : List UInt8 → Nat
  | [] => 0
  | x :: l => x.toNat + 256 * leval l
theorem leval_leL (k : Nat) : ∀ n, leval (leL n k) = n % 256 ^ k := by
  induction k with
  | zero => intro n; simp [leL, leval, Nat.mod_one]
  | succ k ih =>
    intro n
    rw [leL, leval, ih, ofNat_toNat (by omega), Nat.pow_succ, Nat.mul_comm (256 ^ k) 256, Nat.mod_mul]
theorem leval_lt (l : List UInt8) : leval l < 256 ^ l.length := by
  induction l with
  | nil => simp [leval]
  | cons x l ih =>
    have := x.toNat_lt
    simp only [leval, List.length_cons, Nat.pow_succ]
    omega

theorem or_u16 (a b : Nat) (ha : a < 256) (hb : b < 256) : bits .or .u16 (a : Int) ((b : Int) * 256) = ((a + 256 * b : Nat) : Int) := by
  have e : (b : Int) * 256 = ((256 * b : Nat) : Int) := by omega
  rw [e, u16_or_nat _ _ (by omega) (by omega), nat_join8' _ _ (by omega) (by omega), Nat.add_comm]
theorem or_u32 (a b c d : Nat) (ha : a < 256) (hb : b < 256) (hc : c < 256) (hd : d < 256) :
    bits .or .u32 (bits .or .u32 (bits .or .u32 (a : Int) ((b : Int) * 256)) ((c : Int) * 65536)) ((d : Int) * 16777216) = ((a + 256 * (b + 256 * (c + 256 * d)) : Nat) : Int) := by
  have e1 : (b : Int) * 256 = ((256 * b : Nat) : Int) := by omega
  have e2 : (c : Int) * 65536 = ((65536 * c : Nat) : Int) := by omega
  have e3 : (d : Int) * 16777216 = ((16777216 * d : Nat) : Int) := by omega
  rw [e1, u32_or_nat _ _ (by omega) (by omega), nat_join8' _ _ (by omega) (by omega), e2, u32_or_nat _ _ (by omega) (by omega), nat_join16' _ _ (by omega) (by omega), e3, u32_or_nat _ _ (by omega) (by omega), nat_join24' _ _ (by omega) (by omega)]
  omega
theorem or_u64 (a b : Nat) (ha : a < 4294967296) (hb : b < 4294967296) : bits .or .u64 (a : Int) ((b : Int) * 4294967296) = ((a + 4294967296 * b : Nat) : Int) := by
  have e : (b : Int) * 4294967296 = ((4294967296 * b : Nat) : Int) := by omega
  rw [e, u64_or_nat _ _ (by omega) (by omega), nat_join32' _ _ (by omega) (by omega), Nat.add_comm]
theorem or_u64w (a b : Nat) (ha : a < 4294967296) (hb : b < 4294967296) : bits .or .u64 (IntKind.u64.wrap (a : Int)) (IntKind.u64.wrap (IntKind.u64.wrap (b : Int) * 4294967296)) = ((a + 4294967296 * b : Nat) : Int) := by
  have e1 : IntKind.u64.wrap (a : Int) = (a : Int) := by simp [IntKind.wrap, IntKind.signed, IntKind.bits]; omega
  have e2 : IntKind.u64.wrap (b : Int) = (b : Int) := by simp [IntKind.wrap, IntKind.signed, IntKind.bits]; omega
  have e3 : IntKind.u64.wrap ((b : Int) * 4294967296) = (b : Int) * 4294967296 := by simp [IntKind.wrap, IntKind.signed, IntKind.bits]; omega
  rw [e1, e2, e3, or_u64 a b ha hb]
theorem leval_app (l m : List UInt8) : leval (l ++ m) = leval l + 256 ^ l.length * leval m := by
  induction l with
  | nil => simp [leval]
  | cons x l ih => simp only [List.cons_append, leval, ih, List.length_cons, Nat.pow_succ, Nat.mul_add, ← Nat.mul_assoc, Nat.mul_comm 256 (256 ^ l.length)]; omega

set_option maxRecDepth 100000 in
set_option maxHeartbeats 1000000 in
theorem Uint16_any (g o n c : Nat) (x0 x1 : UInt8) (w : World) (h : Cells w g o (vbs [x0, x1])) (hn : 2 ≤ n) :
    Calls Tryz.prog 148 #[.agg #[], .slice (some ⟨g, o, none⟩) n c] w fun e w' => e = .returned (.int .u16 ((leval [x0, x1] : Nat) : Int)) ∧ Fr [] w w' := by
  have c0 : (w.alloc (.cells #[] 69)).cell? ⟨g, o, none⟩ = some (.int .u8 ((x0.toNat : Nat) : Int)) := ((Fr.refl [] w).alloc _).cell (h 0 _ rfl) (by simp)
  have c1 : (w.alloc (.cells #[] 69)).cell? ⟨g, o + 1, none⟩ = some (.int .u8 ((x1.toNat : Nat) : Int)) := ((Fr.refl [] w).alloc _).cell (h 1 _ rfl) (by simp)
  have b0 := x0.toNat_lt
  have b1 := x1.toNat_lt
  have t1 : (0 : Int) < (n : Int) := by omega
  have t2 : (1 : Int) < (n : Int) := by omega
  have E : Hid (leval [x0, x1] = x0.toNat + 256 * x1.toNat) := rfl
  clear h
  generalize x0.toNat = y0 at *
  generalize x1.toNat = y1 at *
  go_enter Tryz.func148, Tryz.ntmps148
  go_wp2_with fail
  go_quiet (fail)
  go_wp2
  go_ret
  exact ⟨by show Ending.returned (.int .u16 (bits .or .u16 (y0 : Int) ((y1 : Int) * 256))) = _; rw [or_u16 _ _ (by omega) (by omega), E.out], ((Fr.refl [] w).alloc _).drewN _⟩

set_option maxRecDepth 100000 in
set_option maxHeartbeats 1000000 in
theorem Uint32_any (g o n c : Nat) (x0 x1 x2 x3 : UInt8) (w : World) (h : Cells w g o (vbs [x0, x1, x2, x3])) (hn : 4 ≤ n) :
    Calls Tryz.prog 149 #[.agg #[], .slice (some ⟨g, o, none⟩) n c] w fun e w' => e = .returned (.int .u32 ((leval [x0, x1, x2, x3] : Nat) : Int)) ∧ Fr [] w w' := by
  have c0 : (w.alloc (.cells #[] 69)).cell? ⟨g, o, none⟩ = some (.int .u8 ((x0.toNat : Nat) : Int)) := ((Fr.refl [] w).alloc _).cell (h 0 _ rfl) (by simp)
  have c1 : (w.alloc (.cells #[] 69)).cell? ⟨g, o + 1, none⟩ = some (.int .u8 ((x1.toNat : Nat) : Int)) := ((Fr.refl [] w).alloc _).cell (h 1 _ rfl) (by simp)
  have c2 : (w.alloc (.cells #[] 69)).cell? ⟨g, o + 2, none⟩ = some (.int .u8 ((x2.toNat : Nat) : Int)) := ((Fr.refl [] w).alloc _).cell (h 2 _ rfl) (by simp)
  have c3 : (w.alloc (.cells #[] 69)).cell? ⟨g, o + 3, none⟩ = some (.int .u8 ((x3.toNat : Nat) : Int)) := ((Fr.refl [] w).alloc _).cell (h 3 _ rfl) (by simp)
  have b0 := x0.toNat_lt
  have b1 := x1.toNat_lt
  have b2 := x2.toNat_lt
  have b3 := x3.toNat_lt
  have t1 : (0 : Int) < (n : Int) := by omega
  have t2 : (1 : Int) < (n : Int) := by omega
  have t3 : (2 : Int) < (n : Int) := by omega
  have t4 : (3 : Int) < (n : Int) := by omega
  have E : Hid (leval [x0, x1, x2, x3] = x0.toNat + 256 * (x1.toNat + 256 * (x2.toNat + 256 * x3.toNat))) := by show _ = _; simp [leval]
  clear h
  generalize x0.toNat = y0 at *
  generalize x1.toNat = y1 at *
  generalize x2.toNat = y2 at *
  generalize x3.toNat = y3 at *
  go_enter Tryz.func149, Tryz.ntmps149
  go_wp2_with fail
  go_quiet (fail)
  go_wp2
  go_ret
  exact ⟨by show Ending.returned (.int .u32 (bits .or .u32 (bits .or .u32 (bits .or .u32 (y0 : Int) ((y1 : Int) * 256)) ((y2 : Int) * 65536)) ((y3 : Int) * 16777216))) = _; rw [or_u32 _ _ _ _ (by omega) (by omega) (by omega) (by omega), E.out], ((Fr.refl [] w).alloc _).drewN _⟩

set_option maxRecDepth 100000 in
set_option maxHeartbeats 1000000 in
theorem Uint64_any (g o n c : Nat) (l : List UInt8) (w : World) (h : Cells w g o (vbs l)) (hl : l.length = 8) (hn : 8 ≤ n) (hc : n ≤ c) (hm : c ≤ 1099511627776) :
    Calls Tryz.prog 150 #[.agg #[], .slice (some ⟨g, o, none⟩) n c] w fun e w' => e = .returned (.int .u64 ((leval l : Nat) : Int)) ∧ Fr [] w w' := by
  match l, hl with
  | [x0, x1, x2, x3, x4, x5, x6, x7], _ =>
  have F0 : Fr [] w (w.alloc (.cells #[] 69)) := (Fr.refl [] w).alloc _
  have HB : Hid ((w.alloc (.cells #[] 69)).heap[w.heap.size]? = some (.cells #[] 69 (0, 0))) := blk_new _ _
  have c7 : (w.alloc (.cells #[] 69)).cell? ⟨g, o + 7, none⟩ = some (.int .u8 ((x7.toNat : Nat) : Int)) := F0.cell (h 7 _ rfl) (by simp)
  have C1 : Hid (Cells w g o (vbs [x0, x1, x2, x3])) := fun i v hi => h i v (by
    have : i < 4 := by have := (List.getElem?_eq_some_iff.1 hi).1; simpa using this
    match i, this with
    | 0, _ => exact hi
    | 1, _ => exact hi
    | 2, _ => exact hi
    | 3, _ => exact hi)
  have C2 : Hid (Cells w g (o + 4) (vbs [x4, x5, x6, x7])) := fun i v hi => by
    have := h (4 + i) v (by rw [Nat.add_comm]; exact hi)
    rwa [← Nat.add_assoc] at this
  have e1 : leval [x0, x1, x2, x3] < 4294967296 := by have := leval_lt [x0, x1, x2, x3]; simpa using this
  have e2 : leval [x4, x5, x6, x7] < 4294967296 := by have := leval_lt [x4, x5, x6, x7]; simpa using this
  have E : Hid (leval [x0, x1, x2, x3, x4, x5, x6, x7] = leval [x0, x1, x2, x3] + 4294967296 * leval [x4, x5, x6, x7]) := by show _ = _; have := leval_app [x0, x1, x2, x3] [x4, x5, x6, x7]; simpa using this
  obtain ⟨A, hA⟩ : ∃ A, leval [x0, x1, x2, x3] = A := ⟨_, rfl⟩
  obtain ⟨B, hB⟩ : ∃ B, leval [x4, x5, x6, x7] = B := ⟨_, rfl⟩
  rw [hA] at e1 E
  rw [hB] at e2 E
  have HA := Lib.hid hA
  have HBB := Lib.hid hB
  have H0 := Lib.hid F0
  have e1' : (A : Int) < 4294967296 := by omega
  have e2' : (B : Int) < 4294967296 := by omega
  have t1 : (7 : Int) < (n : Int) := by omega
  have t2 : (4 : Int) ≤ (n : Int) := by omega
  have t3 : (4 : Int) ≤ (c : Int) := by omega
  have t4 : ¬ (c : Int) = 4 := by omega
  have t5 : ¬ c = 4 := by omega
  clear h hA hB F0 e1 e2
  go_enter Tryz.func150, Tryz.ntmps150
  go_wp2_with fail
  go_region_held3 (fun _ => True) (trivial)
    (first | (have _t := HF1; go_at_call 149; go_must (refine (Uint32_any g (o + 4) _ _ x4 x5 x6 x7 _ (C2.out.fr HF1.out (by simp)) (by omega)).mono ?_); rw [HBB.out]; rintro e w2 ⟨rfl, hf2⟩; have HF2 := Lib.hid (HF1.out.then hf2); clear hf2)
           | (go_at_call 149; go_must (refine (Uint32_any g o n c x0 x1 x2 x3 _ (C1.out.fr H0.out.drew (by simp)) (by omega)).mono ?_); rw [HA.out]; rintro e w1 ⟨rfl, hf1⟩; have HF1 := Lib.hid (H0.out.drew.then hf1); clear hf1))
  all_goals
    go_wp2_with fail
    go_ret
    exact ⟨by rw [E.out, ← or_u64w A B (by omega) (by omega)]; rfl, HF2.out⟩

/-! ### the reader, and reading by many bytes -/
def RdrR (w : World) (b : Nat) (v : Value) (l : List UInt8) (off : Nat) : Prop :=
  w.heap[b]? = some (.cells #[v, .int .i64 (off : Int)] 200 (0, 0)) ∧ Sl w v (vbs l) ∧ v.ownBlock ≠ some b ∧ off ≤ l.length ∧ l.length ≤ 1099511627776
/-- A buffer (k), or a reader. -/
def SrcR (k : Bool) (w : World) (b : Nat) (v : Value) (l : List UInt8) (off : Nat) : Prop := if k then ∃ rd, BufR w b v l off rd else RdrR w b v l off
def srcT (k : Bool) : Nat := if k then 83 else 182
def srcV (k : Bool) (b : Nat) : Value := .iface (srcT k) (.pointer (some ⟨b, 0, none⟩))

/-- copy over a whole row, at a step of a region. -/
theorem copy_step {ops : Array Oper} {o : Oper} {a : Act} {w : World} {K : Act → World → Prop} {Q : Exit → Act → World → Prop} {E : Prop} (hgd : o.guard = none) (d s : Operand)
    (ho : o.op = .call { callee := .builtin .copy, args := #[d, s], argTypes := #[26, 26] }) (g dCap : Nat) (sp : Option Addr) (m sLen sCap : Nat)
    (hd : a.eval d = .slice (some ⟨g, 0, none⟩) m dCap) (hs : a.eval s = .slice sp sLen sCap) (cur : Array Value) (hg : w.heap[g]? = some (.cells cur 5 (0, 0))) (hcur : cur.size = m)
    (l : List UInt8) (hl : l.length = m) (hsl : m ≤ sLen) (ad : Addr) (hsp : sp = some ad) (hsrc : ∀ j v, (vbs l)[j]? = some v → w.cell? (ad.add j) = some v)
    (h : ∀ w', w'.heap[g]? = some (.cells (vbs l).toArray 5 (0, 0)) → Fr [g] w w' → K (a.put o.dst (.int .i64 (m : Int))) w') :
    if Region.wanted o (yielded ops a.tmps) = true then Oper.wp Tryz.prog o a w K Q else E := by
  have hw : Region.wanted o (yielded ops a.tmps) = true := by simp [Region.wanted, hgd]
  rw [if_pos hw]
  subst hsp
  have hn : (vbs l).length = Nat.min sLen m := by rw [List.length_map, hl, Nat.min_eq_min]; omega
  have hrun := run_copy_row (P := Tryz.prog) w 26 26 o.type 5 g 0 m dCap ad sLen sCap cur 5 (vbs l) Tryz.underlying26 (by kernel_rfl) hg hn hsrc (by simp; omega) (vbs_one l)
  unfold Oper.wp
  simp [execOp, ho, resolve, invoke, builtin, hd, hs, hrun, Result.andThen]
  have e : (List.map vb l ++ List.drop l.length cur.toList) = vbs l := by
    rw [List.drop_of_length_le (by simp; omega), List.append_nil]
  rw [e, hl]
  exact h _ (setRow_heap w g _ _ _ _ hg) ⟨rfl, rfl, rfl, by simp [World.setRow], fun k hk hn => setRow_other w g k _ (by simpa using hn)⟩

theorem drop_take_cells {w : World} {g o : Nat} {l : List UInt8} (h : Cells w g o (vbs l)) (off m : Nat) : Cells w g (o + off) (vbs ((l.drop off).take m)) := by
  have := (h.drop off).take m
  simpa [List.map_drop, List.map_take] using this

set_option maxRecDepth 100000 in
set_option maxHeartbeats 2000000 in
theorem BufRead_any (b : Nat) (v : Value) (l : List UInt8) (off : Nat) (rd : Bool) (g m c : Nat) (cur : Array Value) (w : World) (h : BufR w b v l off rd) (hm : 0 < m) (ho : off + m ≤ l.length)
    (hg : w.heap[g]? = some (.cells cur 5 (0, 0))) (hcur : cur.size = m) (hgb : g ≠ b) (hgv : v.ownBlock ≠ some g) :
    Calls Tryz.prog 151 #[.pointer (some ⟨b, 0, none⟩), .slice (some ⟨g, 0, none⟩) m c] w fun e w' =>
      e = .returned (.tuple #[.int .i64 (m : Int), .nilIface]) ∧ BufR w' b v l (off + m) true ∧ w'.heap[g]? = some (.cells (vbs ((l.drop off).take m)).toArray 5 (0, 0)) ∧ Fr [b, g] w w' := by
  obtain ⟨hb, hs, hne, -, hl⟩ := h
  obtain ⟨a, cc, rfl, h1, h2, h3, -⟩ := hs.shape
  obtain ⟨gs, os, rfl, hc⟩ := h3 (by omega)
  have hne' : Hid (gs ≠ b) := by show gs ≠ b; simpa [Value.ownBlock] using hne
  have hgv' : Hid (gs ≠ g) := by show gs ≠ g; simpa [Value.ownBlock] using hgv
  have hgb' := Lib.hid hgb
  unfold maxLen at h2
  have c2 : w.cell? ⟨b, 2, none⟩ = some (.bool rd) := by rw [blk_cell hb]; rfl
  have f2 : w.frozen? ⟨b, 2, none⟩ = false := blk_free hb _
  have hb1 : (w.setCell ⟨b, 2, none⟩ (.bool false)).heap[b]? = some (.cells #[.slice (some ⟨gs, os, none⟩) l.length cc, .int .i64 (off : Int), .bool false] 132 (0, 0)) := by simpa using blk_set hb 2 (.bool false)
  have hF1 : Fr [b] w (w.setCell ⟨b, 2, none⟩ (.bool false)) := (Fr.refl _ _).setCell (.inl (by simp)) _
  have hB1 : BufR (w.setCell ⟨b, 2, none⟩ (.bool false)) b (.slice (some ⟨gs, os, none⟩) l.length cc) l off false := ⟨hb1, hs.fr hF1 (by intro g' hg'; simp [Value.ownBlock] at hg'; subst hg'; simpa using hne'.out), by simpa [Value.ownBlock] using hne'.out, by omega, hl⟩
  generalize hw1 : w.setCell ⟨b, 2, none⟩ (.bool false) = w1 at *
  have c0 : w1.cell? ⟨b, 0, none⟩ = some (.slice (some ⟨gs, os, none⟩) l.length cc) := by rw [blk_cell hb1]; rfl
  have c1 : w1.cell? ⟨b, 1, none⟩ = some (.int .i64 (off : Int)) := by rw [blk_cell hb1]; rfl
  have Hc : Hid (Cells w1 gs (os + off) (vbs ((l.drop off).take m))) := drop_take_cells (hc.fr hF1 (by simpa using hne'.out)) off m
  have Hg1 : Hid (w1.heap[g]? = some (.cells cur 5 (0, 0))) := hF1.get hg (by simpa using hgb)
  have HB1 := Lib.hid hB1
  have Hb1 := Lib.hid hb1
  have HF1 := Lib.hid hF1
  have Hcur := Lib.hid hcur
  have Hs := Lib.hid hs
  have Hw1 := Lib.hid hw1
  have Hml : Hid (((l.drop off).take m).length = m) := by show _ = _; rw [List.length_take, List.length_drop]; omega
  have hlen : (off : Int) ≤ (l.length : Int) := by omega
  have hcap : (off : Int) ≤ (cc : Int) := by omega
  have hcap2 : ¬ cc = off := by omega
  have hlo : m ≤ l.length - off := by omega
  have hx : 0 < l.length - off := by omega
  have hne2 : (((l.length - off : Nat) : Int) == 0) = false := by simp; omega
  clear hb hs hne h1 h3 hgb hgv hc hg hcur hb1 hF1 hB1 hw1
  go_enter Tryz.func151, Tryz.ntmps151
  go_wp2_with (go_at_call 41; rw [Hw1.out]; refine (BufLen_any b _ l off (l.length - off) false _ HB1.out (by omega)).mono ?_; rintro e w' ⟨rfl, k, rfl⟩)
  go_region_held3 (fun w' => w'.cell? ⟨b, 0, none⟩ = some (.slice (some ⟨gs, os, none⟩) l.length cc) ∧ w'.cell? ⟨b, 1, none⟩ = some (.int .i64 (off : Int)))
    (first | exact ⟨HF2.out.cell c0 (by simpa using hgb'.out.symm), HF2.out.cell c1 (by simpa using hgb'.out.symm)⟩ | exact ⟨c0, c1⟩)
    ((refine copy_step (by rfl) _ _ (by rfl) g c (some ⟨gs, os + off, none⟩) m (l.length - off) (cc - off) (by rfl) (by rfl) cur Hg1.out Hcur.out _ Hml.out hlo ⟨gs, os + off, none⟩ (by rfl) (fun j v hj => by rw [Addr.add_lit]; exact Hc.out j v hj) ?_; intro w2 hg2 hf2; have Hg2 := Lib.hid hg2; have HF2 : Hid (Fr [g] w1 w2) := ⟨hf2.os, hf2.tape, hf2.output, hf2.size, hf2.blk⟩; clear hg2 hf2))
  all_goals
    have hb2 : w2.heap[b]? = some (.cells #[.slice (some ⟨gs, os, none⟩) l.length cc, .int .i64 (off : Int), .bool false] 132 (0, 0)) := HF2.out.get Hb1.out (by simpa using hgb'.out.symm)
    have d1 : w2.cell? ⟨b, 1, none⟩ = some (.int .i64 (off : Int)) := by rw [blk_cell hb2]; rfl
    have d2 : w2.cell? ⟨b, 2, none⟩ = some (.bool false) := by rw [blk_cell hb2]; rfl
    have e1 : w2.frozen? ⟨b, 1, none⟩ = false := blk_free hb2 _
    have e2 : w2.frozen? ⟨b, 2, none⟩ = false := blk_free hb2 _
    have hmi : (0 : Int) < (m : Int) := by omega
    have Hb2 := Lib.hid hb2
    clear hb2 c0 c1
    go_wp2
    go_ret2
    refine ⟨rfl, ⟨?_, ?_, by simpa [Value.ownBlock] using hne'.out, by omega, hl⟩, ?_, ?_⟩
    · simpa using blk_set (w := w2.setCell ⟨b, 1, none⟩ (.int .i64 ((off : Int) + m))) (blk_set (w := w2) Hb2.out 1 _) 2 (.bool true)
    · refine Hs.out.fr (bs := [b, g]) ((((HF1.out.mono (bs := [b, g]) (by simp)).trans HF2.out (by simp)).setCell (.inl (by simp)) _).setCell (.inl (by simp)) _) ?_
      intro g' hg'; simp [Value.ownBlock] at hg'; subst hg'; simpa using ⟨hne'.out, hgv'.out⟩
    · have := blk_set_other (blk_set_other Hg2.out (i := 1) (u := .int .i64 ((off : Int) + m)) hgb'.out) (i := 2) (u := .bool true) hgb'.out
      simpa using this
    · exact (((HF1.out.mono (bs := [b, g]) (by simp)).trans HF2.out (by simp)).setCell (.inl (by simp)) _).setCell (.inl (by simp)) _
end Go.Proofs.YtahohmdfllgedaaGreat

namespace Go.Proofs.YtahohmdfllgedaaGreat
open Go.RowKit

set_option maxHeartbeats 400000 in
theorem NewReader_any (a : Option Addr) (n c : Nat) (w : World) :
    Calls Tryz.prog 79 #[.slice a n c] w fun e w' => e = .returned (.pointer (some ⟨w.heap.size, 0, none⟩)) ∧ w' = w.alloc (.cells #[.slice a n c, .int .i64 0] 200 (0, 0)) := by
  go_enter Tryz.func79, Tryz.ntmps79
  go_wp2_with fail
  go_ret
  exact ⟨rfl, rfl⟩
theorem RdrR_new {w : World} {v : Value} {l : List UInt8} (h : Sl w v (vbs l)) (hlt : ∀ g, v.ownBlock = some g → g < w.heap.size) (hl : l.length ≤ 1099511627776) : RdrR (w.alloc (.cells #[v, .int .i64 0] 200 (0, 0))) w.heap.size v l 0 :=
  ⟨blk_new _ _, h.fr ((Fr.refl [] w).alloc _) (by simp), (fun hg => by have := hlt _ hg; omega), Nat.zero_le _, hl⟩
theorem RdrR.fr {bs : List Nat} {w w' : World} {b : Nat} {v : Value} {l : List UInt8} {off : Nat} (h : RdrR w b v l off) (f : Fr bs w w') (hb : b ∉ bs)
    (hv : ∀ g, v.ownBlock = some g → g ∉ bs) : RdrR w' b v l off :=
  ⟨f.get h.1 hb, h.2.1.fr f hv, h.2.2⟩
theorem SrcR.fr {k : Bool} {bs : List Nat} {w w' : World} {b : Nat} {v : Value} {l : List UInt8} {off : Nat} (h : SrcR k w b v l off) (f : Fr bs w w') (hb : b ∉ bs)
    (hv : ∀ g, v.ownBlock = some g → g ∉ bs) : SrcR k w' b v l off := by
  cases k
  · exact RdrR.fr h f hb hv
  · obtain ⟨rd, h⟩ := h; exact ⟨rd, h.fr f hb hv⟩

set_option maxRecDepth 100000 in
set_option maxHeartbeats 2000000 in
theorem RdrSeek_zero (b : Nat) (v : Value) (l : List UInt8) (off : Nat) (w : World) (h : RdrR w b v l off) :
    Calls Tryz.prog 81 #[.pointer (some ⟨b, 0, none⟩), .int .i64 0, .int .i64 1] w fun e w' =>
      e = .returned (.tuple #[.int .i64 (off : Int), .nilIface]) ∧ RdrR w' b v l off ∧ Fr [b] w w' := by
  obtain ⟨hb, hs, hne, ho, hl⟩ := h
  have c1 : w.cell? ⟨b, 1, none⟩ = some (.int .i64 (off : Int)) := by rw [blk_cell hb]; rfl
  have f1 : w.frozen? ⟨b, 1, none⟩ = false := blk_free hb _
  have hoff : (off : Int) ≤ 1099511627776 := by omega
  have Hb := Lib.hid hb
  have Hs := Lib.hid hs
  have Hne := Lib.hid hne
  clear hb hs hne
  go_enter Tryz.func81, Tryz.ntmps81
  go_wp2_with fail
  go_ret2
  have hf : Fr [b] w (w.setCell ⟨b, 1, none⟩ (.int .i64 (off : Int))) := (Fr.refl _ _).setCell (.inl (by simp)) _
  exact ⟨rfl, ⟨by simpa using blk_set Hb.out 1 (.int .i64 (off : Int)), Hs.out.fr hf (by intro g hg; simp; rintro rfl; exact Hne.out hg), Hne.out, ho, hl⟩, hf⟩

set_option maxRecDepth 100000 in
set_option maxHeartbeats 2000000 in
theorem RdrRead_any (b : Nat) (v : Value) (l : List UInt8) (off : Nat) (g m c : Nat) (cur : Array Value) (w : World) (h : RdrR w b v l off) (hm : 0 < m) (ho : off + m ≤ l.length)
    (hg : w.heap[g]? = some (.cells cur 5 (0, 0))) (hcur : cur.size = m) (hgb : g ≠ b) (hgv : v.ownBlock ≠ some g) :
    Calls Tryz.prog 156 #[.pointer (some ⟨b, 0, none⟩), .slice (some ⟨g, 0, none⟩) m c] w fun e w' =>
      e = .returned (.tuple #[.int .i64 (m : Int), .nilIface]) ∧ RdrR w' b v l (off + m) ∧ w'.heap[g]? = some (.cells (vbs ((l.drop off).take m)).toArray 5 (0, 0)) ∧ Fr [b, g] w w' := by
  obtain ⟨hb, hs, hne, -, hl⟩ := h
  obtain ⟨a, cc, rfl, h1, h2, h3, -⟩ := hs.shape
  obtain ⟨gs, os, rfl, hc⟩ := h3 (by omega)
  have hne' : Hid (gs ≠ b) := by show gs ≠ b; simpa [Value.ownBlock] using hne
  have hgv' : Hid (gs ≠ g) := by show gs ≠ g; simpa [Value.ownBlock] using hgv
  have hgb' := Lib.hid hgb
  unfold maxLen at h2
  have c0 : w.cell? ⟨b, 0, none⟩ = some (.slice (some ⟨gs, os, none⟩) l.length cc) := by rw [blk_cell hb]; rfl
  have c1 : w.cell? ⟨b, 1, none⟩ = some (.int .i64 (off : Int)) := by rw [blk_cell hb]; rfl
  have Hc : Hid (Cells w gs (os + off) (vbs ((l.drop off).take m))) := drop_take_cells hc off m
  have Hg1 := Lib.hid hg
  have Hb1 := Lib.hid hb
  have Hcur := Lib.hid hcur
  have Hs := Lib.hid hs
  have Hml : Hid (((l.drop off).take m).length = m) := by show _ = _; rw [List.length_take, List.length_drop]; omega
  have hlen : (off : Int) ≤ (l.length : Int) := by omega
  have hcap : (off : Int) ≤ (cc : Int) := by omega
  have hcap2 : ¬ cc = off := by omega
  have hlo : m ≤ l.length - off := by omega
  have hoff : ¬ (l.length : Int) ≤ (off : Int) := by omega
  have hoff2 : decide ((l.length : Int) ≤ (off : Int)) = false := by simpa using hoff
  clear hb hs hne h1 h3 hgb hgv hc hg hcur
  go_enter Tryz.func156, Tryz.ntmps156
  go_wp2_with fail
  go_quiet (fail)
  go_wp2_with fail
  go_region_held3 (fun w' => w'.cell? ⟨b, 0, none⟩ = some (.slice (some ⟨gs, os, none⟩) l.length cc) ∧ w'.cell? ⟨b, 1, none⟩ = some (.int .i64 (off : Int)))
    (first | exact ⟨HF2.out.cell c0 (by simpa using hgb'.out.symm), HF2.out.cell c1 (by simpa using hgb'.out.symm)⟩ | exact ⟨c0, c1⟩)
    ((refine copy_step (by rfl) _ _ (by rfl) g c (some ⟨gs, os + off, none⟩) m (l.length - off) (cc - off) (by rfl) (by rfl) cur Hg1.out Hcur.out _ Hml.out hlo ⟨gs, os + off, none⟩ (by rfl) (fun j v hj => by rw [Addr.add_lit]; exact Hc.out j v hj) ?_; intro w2 hg2 hf2; have Hg2 := Lib.hid hg2; have HF2 : Hid (Fr [g] w w2) := ⟨hf2.os, hf2.tape, hf2.output, hf2.size, hf2.blk⟩; clear hg2 hf2))
  all_goals
    have hb2 : w2.heap[b]? = some (.cells #[.slice (some ⟨gs, os, none⟩) l.length cc, .int .i64 (off : Int)] 200 (0, 0)) := HF2.out.get Hb1.out (by simpa using hgb'.out.symm)
    have d1 : w2.cell? ⟨b, 1, none⟩ = some (.int .i64 (off : Int)) := by rw [blk_cell hb2]; rfl
    have e1 : w2.frozen? ⟨b, 1, none⟩ = false := blk_free hb2 _
    have Hb2 := Lib.hid hb2
    clear hb2 c0 c1
    go_wp2
    go_ret2
    refine ⟨rfl, ⟨?_, ?_, by simpa [Value.ownBlock] using hne'.out, by omega, hl⟩, ?_, ?_⟩
    · simpa using blk_set (w := w2) Hb2.out 1 (.int .i64 ((off : Int) + m))
    · refine Hs.out.fr (bs := [b, g]) ((HF2.out.mono (bs := [b, g]) (by simp)).setCell (.inl (by simp)) _) ?_
      intro g' hg'; simp [Value.ownBlock] at hg'; subst hg'; simpa using ⟨hne'.out, hgv'.out⟩
    · have := blk_set_other Hg2.out (i := 1) (u := .int .i64 ((off : Int) + m)) hgb'.out
      simpa using this
    · exact (HF2.out.mono (bs := [b, g]) (by simp)).setCell (.inl (by simp)) _

theorem nilahead_buf (b : Nat) (w : World) : (nilAhead 334 83 (.pointer (some ⟨b, 0, none⟩)) "Read").run Tryz.prog w = .ok (some false) w := by kernel_rfl
theorem nilahead_rdr (b : Nat) (w : World) : (nilAhead 334 182 (.pointer (some ⟨b, 0, none⟩)) "Read").run Tryz.prog w = .ok (some false) w := by kernel_rfl
theorem m_BufRead (b : Nat) (w : World) : (method 334 83 (.pointer (some ⟨b, 0, none⟩)) "Read").run Tryz.prog w = .ok (151, .pointer (some ⟨b, 0, none⟩)) w := by kernel_rfl
theorem m_RdrRead (b : Nat) (w : World) : (method 334 182 (.pointer (some ⟨b, 0, none⟩)) "Read").run Tryz.prog w = .ok (156, .pointer (some ⟨b, 0, none⟩)) w := by kernel_rfl

set_option maxRecDepth 100000 in
set_option maxHeartbeats 2000000 in
theorem readFull_buf (b : Nat) (v : Value) (l : List UInt8) (off : Nat) (rd : Bool) (g m c : Nat) (cur : Array Value) (w : World) (h : BufR w b v l off rd) (hm : 0 < m) (hmc : m ≤ c) (hcm : c ≤ 1099511627776) (ho : off + m ≤ l.length)
    (hg : w.heap[g]? = some (.cells cur 5 (0, 0))) (hcur : cur.size = m) (hgb : g ≠ b) (hgv : v.ownBlock ≠ some g) :
    Calls Tryz.prog 70 #[.iface 83 (.pointer (some ⟨b, 0, none⟩)), .slice (some ⟨g, 0, none⟩) m c] w fun e w' =>
      e = .returned (.tuple #[.int .i64 (m : Int), .nilIface]) ∧ BufR w' b v l (off + m) true ∧ w'.heap[g]? = some (.cells (vbs ((l.drop off).take m)).toArray 5 (0, 0)) ∧ Fr [b, g] w w' := by
  have h1 := nilahead_buf
  have h2 := m_BufRead
  have hmf : ∀ (fn : Fn) (first cap : Array Value) (w : World), (Instr.makeFunc fn first cap).run Tryz.prog w = .ok (.func fn first cap) w := fun _ _ _ _ => rfl
  have H := Lib.hid h
  have Hg := Lib.hid hg
  have Hcur := Lib.hid hcur
  have Hgb := Lib.hid hgb
  have Hgv := Lib.hid hgv
  have t0 : (0 : Int) < (m : Int) := by omega
  have t1 : (0 : Int) ≤ (m : Int) := by omega
  have t2 : (0 : Int) ≤ (c : Int) := by omega
  have t3 : ¬ c = 0 := by omega
  clear h hg hcur hgb hgv
  go_enter Tryz.func70, Tryz.ntmps70
  go_wp2_with fail
  go_loopw [4, 5] (fun n er wr => (n = .int .i64 0 ∧ er = .nilIface ∧ wr = w) ∨ (n = .int .i64 (m : Int) ∧ er = .nilIface ∧ BufR wr b v l (off + m) true ∧ wr.heap[g]? = some (.cells (vbs ((l.drop off).take m)).toArray 5 (0, 0)) ∧ Fr [b, g] w wr))
    (fun n _ _ => m - (intOf n).toNat)
  case atStart => exact .inl ⟨rfl, rfl, rfl⟩
  case round =>
    rcases hrel with ⟨rfl, rfl, rfl⟩ | ⟨rfl, rfl, hb, hgg, hfr⟩
    · go_wp2_with fail
      go_region_held3 (fun _ => True) (trivial)
        ((go_at_call 151; go_must (refine (BufRead_any b v l off rd g m c cur _ (H.out.fr (Fr.drew (Fr.refl [] _)) (by simp) (by simp)) hm ho Hg.out Hcur.out Hgb.out Hgv.out).mono ?_); rintro e w2 ⟨rfl, hb2, hg2, hf2⟩; have Hb2 := Lib.hid hb2; have Hg2 := Lib.hid hg2; have Hf2 := Lib.hid hf2; clear hb2 hg2 hf2))
      all_goals
        go_wp2_with fail
        exact ⟨.inr ⟨rfl, rfl, Hb2.out, Hg2.out, (Fr.refl [b, g] _).drew.trans Hf2.out (fun i h _ => h)⟩, by simp [intOf]; omega⟩
    · have Hb := Lib.hid hb
      have Hgg := Lib.hid hgg
      have Hfr := Lib.hid hfr
      clear hb hgg hfr
      go_wp2
      go_ret2
      exact ⟨rfl, Hb.out, Hgg.out, Hfr.out⟩
set_option maxRecDepth 100000 in
set_option maxHeartbeats 2000000 in
theorem readFull_rdr (b : Nat) (v : Value) (l : List UInt8) (off : Nat) (g m c : Nat) (cur : Array Value) (w : World) (h : RdrR w b v l off) (hm : 0 < m) (hmc : m ≤ c) (hcm : c ≤ 1099511627776) (ho : off + m ≤ l.length)
    (hg : w.heap[g]? = some (.cells cur 5 (0, 0))) (hcur : cur.size = m) (hgb : g ≠ b) (hgv : v.ownBlock ≠ some g) :
    Calls Tryz.prog 70 #[.iface 182 (.pointer (some ⟨b, 0, none⟩)), .slice (some ⟨g, 0, none⟩) m c] w fun e w' =>
      e = .returned (.tuple #[.int .i64 (m : Int), .nilIface]) ∧ RdrR w' b v l (off + m) ∧ w'.heap[g]? = some (.cells (vbs ((l.drop off).take m)).toArray 5 (0, 0)) ∧ Fr [b, g] w w' := by
  have h1 := nilahead_rdr
  have h2 := m_RdrRead
  have hmf : ∀ (fn : Fn) (first cap : Array Value) (w : World), (Instr.makeFunc fn first cap).run Tryz.prog w = .ok (.func fn first cap) w := fun _ _ _ _ => rfl
  have H := Lib.hid h
  have Hg := Lib.hid hg
  have Hcur := Lib.hid hcur
  have Hgb := Lib.hid hgb
  have Hgv := Lib.hid hgv
  have t0 : (0 : Int) < (m : Int) := by omega
  have t1 : (0 : Int) ≤ (m : Int) := by omega
  have t2 : (0 : Int) ≤ (c : Int) := by omega
  have t3 : ¬ c = 0 := by omega
  clear h hg hcur hgb hgv
  go_enter Tryz.func70, Tryz.ntmps70
  go_wp2_with fail
  go_loopw [4, 5] (fun n er wr => (n = .int .i64 0 ∧ er = .nilIface ∧ wr = w) ∨ (n = .int .i64 (m : Int) ∧ er = .nilIface ∧ RdrR wr b v l (off + m) ∧ wr.heap[g]? = some (.cells (vbs ((l.drop off).take m)).toArray 5 (0, 0)) ∧ Fr [b, g] w wr))
    (fun n _ _ => m - (intOf n).toNat)
  case atStart => exact .inl ⟨rfl, rfl, rfl⟩
  case round =>
    rcases hrel with ⟨rfl, rfl, rfl⟩ | ⟨rfl, rfl, hb, hgg, hfr⟩
    · go_wp2_with fail
      go_region_held3 (fun _ => True) (trivial)
        ((go_at_call 156; go_must (refine (RdrRead_any b v l off g m c cur _ (H.out.fr (Fr.drew (Fr.refl [] _)) (by simp) (by simp)) hm ho Hg.out Hcur.out Hgb.out Hgv.out).mono ?_); rintro e w2 ⟨rfl, hb2, hg2, hf2⟩; have Hb2 := Lib.hid hb2; have Hg2 := Lib.hid hg2; have Hf2 := Lib.hid hf2; clear hb2 hg2 hf2))
      all_goals
        go_wp2_with fail
        exact ⟨.inr ⟨rfl, rfl, Hb2.out, Hg2.out, (Fr.refl [b, g] _).drew.trans Hf2.out (fun i h _ => h)⟩, by simp [intOf]; omega⟩
    · have Hb := Lib.hid hb
      have Hgg := Lib.hid hgg
      have Hfr := Lib.hid hfr
      clear hb hgg hfr
      go_wp2
      go_ret2
      exact ⟨rfl, Hb.out, Hgg.out, Hfr.out⟩

theorem readFull_any (k : Bool) (b : Nat) (v : Value) (l : List UInt8) (off : Nat) (g m c : Nat) (cur : Array Value) (w : World) (h : SrcR k w b v l off) (hm : 0 < m) (hmc : m ≤ c) (hcm : c ≤ 1099511627776) (ho : off + m ≤ l.length)
    (hg : w.heap[g]? = some (.cells cur 5 (0, 0))) (hcur : cur.size = m) (hgb : g ≠ b) (hgv : v.ownBlock ≠ some g) :
    Calls Tryz.prog 70 #[srcV k b, .slice (some ⟨g, 0, none⟩) m c] w fun e w' =>
      e = .returned (.tuple #[.int .i64 (m : Int), .nilIface]) ∧ SrcR k w' b v l (off + m) ∧ w'.heap[g]? = some (.cells (vbs ((l.drop off).take m)).toArray 5 (0, 0)) ∧ Fr [b, g] w w' := by
  cases k
  · exact readFull_rdr b v l off g m c cur w h hm hmc hcm ho hg hcur hgb hgv
  · obtain ⟨rd, h⟩ := h
    exact (readFull_buf b v l off rd g m c cur w h hm hmc hcm ho hg hcur hgb hgv).mono fun e w' ⟨h1, h2, h3⟩ => ⟨h1, ⟨true, h2⟩, h3⟩

end Go.Proofs.YtahohmdfllgedaaGreat

namespace Go.Proofs.YtahohmdfllgedaaGreat
open Go.RowKit

theorem m_Uint16 (w : World) : (method 334 69 (.agg #[]) "Uint16").run Tryz.prog w = .ok (148, .agg #[]) w := by kernel_rfl
theorem m_Uint32 (w : World) : (method 334 69 (.agg #[]) "Uint32").run Tryz.prog w = .ok (149, .agg #[]) w := by kernel_rfl
theorem m_Uint64 (w : World) : (method 334 69 (.agg #[]) "Uint64").run Tryz.prog w = .ok (150, .agg #[]) w := by kernel_rfl
theorem cells_blk {w : World} {g : Nat} {l : List UInt8} {t : TypeId} {fz : Nat × Nat} (h : w.heap[g]? = some (.cells (vbs l).toArray t fz)) : Cells w g 0 (vbs l) :=
  fun i v hi => by rw [Nat.zero_add, blk_cell h]; simpa using hi

set_option maxRecDepth 100000 in
set_option maxHeartbeats 4000000 in
theorem ReadFixed_u16 (k : Bool) (b : Nat) (v : Value) (l : List UInt8) (off : Nat) (p po : Nat) (cs : Array Value) (pt : TypeId) (old : Int) (w : World) (h : SrcR k w b v l off) (hl : off + 2 ≤ l.length)
    (hp : w.heap[p]? = some (.cells cs pt (0, 0))) (hpo : cs[po]? = some (.int .u16 old)) (hpb : p ≠ b) (hb : b < w.heap.size) (hv : ∀ g, v.ownBlock = some g → g < w.heap.size ∧ g ≠ p) :
    Calls Tryz.prog 52 #[srcV k b, .iface 69 (.agg #[]), .iface 157 (.pointer (some ⟨p, po, none⟩))] w fun e w' =>
      e = .returned .nilIface ∧ SrcR k w' b v l (off + 2) ∧ w'.heap[p]? = some (.cells (cs.setIfInBounds po (.int .u16 ((leval ((l.drop off).take 2) : Nat) : Int))) pt (0, 0)) ∧ Fr [b, p] w w' := by
  have ta_pu8 : ∀ (a : Option Addr) (w : World), (Instr.typeAssert (.iface 157 (.pointer a)) 20 155 true).run Tryz.prog w = .ok (.tuple #[.pointer none, .bool false]) w := fun _ _ => by kernel_rfl
  have ta_pi8 : ∀ (a : Option Addr) (w : World), (Instr.typeAssert (.iface 157 (.pointer a)) 20 156 true).run Tryz.prog w = .ok (.tuple #[.pointer none, .bool false]) w := fun _ _ => by kernel_rfl
  have ta_pu16 : ∀ (a : Option Addr) (w : World), (Instr.typeAssert (.iface 157 (.pointer a)) 20 157 true).run Tryz.prog w = .ok (.tuple #[.pointer a, .bool true]) w := fun _ _ => by kernel_rfl
  have ta_pi16 : ∀ (a : Option Addr) (w : World), (Instr.typeAssert (.iface 157 (.pointer a)) 20 158 true).run Tryz.prog w = .ok (.tuple #[.pointer none, .bool false]) w := fun _ _ => by kernel_rfl
  have hm := m_Uint16
  have hmk : ∀ w, (Instr.makeSlice 26 (.int .i64 2) (.int .i64 2)).run Tryz.prog w = .ok (.slice (some ⟨w.heap.size, 0, none⟩) 2 2) (w.alloc (.cells #[.int .u8 0, .int .u8 0] 5 (0, 0))) := fun _ => by kernel_rfl
  have H := Lib.hid h
  have Hp := Lib.hid hp
  have Hpo := Lib.hid hpo
  have Hpb := Lib.hid hpb
  have Hv := Lib.hid hv
  have hplt := lt_heap hp
  clear h hp hpo hpb hv
  obtain ⟨x0, x1, hx⟩ : ∃ x0 x1, (l.drop off).take 2 = [x0, x1] := by
    have hxl : ((l.drop off).take 2).length = 2 := by rw [List.length_take, List.length_drop]; omega
    match (l.drop off).take 2, hxl with
    | [x0, x1], _ => exact ⟨x0, x1, rfl⟩
  have Hx := Lib.hid hx
  rw [hx]
  clear hx
  go_enter Tryz.func52, Tryz.ntmps52
  go_wp2_with (go_at_call 70; go_must (refine (readFull_any k b v l off w.heap.size 2 2 _ _ (H.out.fr ((Fr.refl [] w).alloc _) (by simp) (by simp)) (by decide) (by decide) (by decide) hl (blk_new w _) (by rfl) (by omega) (fun h => by have := (Hv.out _ h).1; omega)).mono ?_); rw [Hx.out]; rintro e w2 ⟨rfl, hb2, hg2, hf2⟩; have Hb2 := Lib.hid hb2; have Hg2 := Lib.hid hg2; have Hf2 : Hid (Fr [b] w w2) := ((Fr.refl [b] w).alloc _).trans hf2 (by intro i hi hlt; simp at hi hlt; rcases hi with rfl | rfl; simp; omega); clear hb2 hg2 hf2)
  refine ((Uint16_any w.heap.size 0 2 2 x0 x1 _ (cells_blk Hg2.out) (by decide))).mono ?_
  obtain ⟨val, hval⟩ : ∃ val, leval [x0, x1] = val := ⟨_, rfl⟩
  rw [hval]
  have Hval := Lib.hid hval
  clear hval
  rintro e w3 ⟨rfl, hf3⟩
  have Hb3 : Hid (SrcR k w3 b v l (off + 2)) := Hb2.out.fr hf3 (by simp) (by simp)
  have hp3 : w3.heap[p]? = some (.cells cs pt (0, 0)) := hf3.get (Hf2.out.get Hp.out (by simpa using Hpb.out)) (by simp)
  have Hf3 : Hid (Fr [b] w w3) := Hf2.out.then hf3
  have d0 : w3.cell? ⟨p, po, none⟩ = some (.int .u16 old) := by rw [blk_cell hp3]; exact Hpo.out
  have e0 : w3.frozen? ⟨p, po, none⟩ = false := blk_free hp3 _
  have Hp3 := Lib.hid hp3
  clear hp3 hf3
  go_wp2_with fail
  go_ret
  have F : Fr [b, p] w (w3.setCell ⟨p, po, none⟩ (.int .u16 (val : Int))) := (Hf3.out.mono (by simp)).setCell (.inl (by simp)) _
  exact ⟨rfl, Hb3.out.fr ((Fr.refl [p] w3).setCell (.inl (by simp)) _) (by simpa using Hpb.out.symm) (by intro g hg; simpa using (Hv.out g hg).2), by rw [Hval.out]; exact blk_set Hp3.out po _, F⟩

set_option maxRecDepth 100000 in
set_option maxHeartbeats 4000000 in
theorem ReadFixed_i16 (k : Bool) (b : Nat) (v : Value) (l : List UInt8) (off : Nat) (p po : Nat) (cs : Array Value) (pt : TypeId) (old : Int) (w : World) (h : SrcR k w b v l off) (hl : off + 2 ≤ l.length)
    (hp : w.heap[p]? = some (.cells cs pt (0, 0))) (hpo : cs[po]? = some (.int .i16 old)) (hpb : p ≠ b) (hb : b < w.heap.size) (hv : ∀ g, v.ownBlock = some g → g < w.heap.size ∧ g ≠ p) :
    Calls Tryz.prog 52 #[srcV k b, .iface 69 (.agg #[]), .iface 158 (.pointer (some ⟨p, po, none⟩))] w fun e w' =>
      e = .returned .nilIface ∧ SrcR k w' b v l (off + 2) ∧ w'.heap[p]? = some (.cells (cs.setIfInBounds po (.int .i16 (IntKind.i16.wrap ((leval ((l.drop off).take 2) : Nat) : Int)))) pt (0, 0)) ∧ Fr [b, p] w w' := by
  have ta_pu8 : ∀ (a : Option Addr) (w : World), (Instr.typeAssert (.iface 158 (.pointer a)) 20 155 true).run Tryz.prog w = .ok (.tuple #[.pointer none, .bool false]) w := fun _ _ => by kernel_rfl
  have ta_pi8 : ∀ (a : Option Addr) (w : World), (Instr.typeAssert (.iface 158 (.pointer a)) 20 156 true).run Tryz.prog w = .ok (.tuple #[.pointer none, .bool false]) w := fun _ _ => by kernel_rfl
  have ta_pu16 : ∀ (a : Option Addr) (w : World), (Instr.typeAssert (.iface 158 (.pointer a)) 20 157 true).run Tryz.prog w = .ok (.tuple #[.pointer none, .bool false]) w := fun _ _ => by kernel_rfl
  have ta_pi16 : ∀ (a : Option Addr) (w : World), (Instr.typeAssert (.iface 158 (.pointer a)) 20 158 true).run Tryz.prog w = .ok (.tuple #[.pointer a, .bool true]) w := fun _ _ => by kernel_rfl
  have hm := m_Uint16
  have hmk : ∀ w, (Instr.makeSlice 26 (.int .i64 2) (.int .i64 2)).run Tryz.prog w = .ok (.slice (some ⟨w.heap.size, 0, none⟩) 2 2) (w.alloc (.cells #[.int .u8 0, .int .u8 0] 5 (0, 0))) := fun _ => by kernel_rfl
  have H := Lib.hid h
  have Hp := Lib.hid hp
  have Hpo := Lib.hid hpo
  have Hpb := Lib.hid hpb
  have Hv := Lib.hid hv
  have hplt := lt_heap hp
  clear h hp hpo hpb hv
  obtain ⟨x0, x1, hx⟩ : ∃ x0 x1, (l.drop off).take 2 = [x0, x1] := by
    have hxl : ((l.drop off).take 2).length = 2 := by rw [List.length_take, List.length_drop]; omega
    match (l.drop off).take 2, hxl with
    | [x0, x1], _ => exact ⟨x0, x1, rfl⟩
  have Hx := Lib.hid hx
  rw [hx]
  clear hx
  go_enter Tryz.func52, Tryz.ntmps52
  go_wp2_with (go_at_call 70; go_must (refine (readFull_any k b v l off w.heap.size 2 2 _ _ (H.out.fr ((Fr.refl [] w).alloc _) (by simp) (by simp)) (by decide) (by decide) (by decide) hl (blk_new w _) (by rfl) (by omega) (fun h => by have := (Hv.out _ h).1; omega)).mono ?_); rw [Hx.out]; rintro e w2 ⟨rfl, hb2, hg2, hf2⟩; have Hb2 := Lib.hid hb2; have Hg2 := Lib.hid hg2; have Hf2 : Hid (Fr [b] w w2) := ((Fr.refl [b] w).alloc _).trans hf2 (by intro i hi hlt; simp at hi hlt; rcases hi with rfl | rfl; simp; omega); clear hb2 hg2 hf2)
  refine ((Uint16_any w.heap.size 0 2 2 x0 x1 _ (cells_blk Hg2.out) (by decide))).mono ?_
  obtain ⟨val, hval⟩ : ∃ val, leval [x0, x1] = val := ⟨_, rfl⟩
  rw [hval]
  have Hval := Lib.hid hval
  clear hval
  rintro e w3 ⟨rfl, hf3⟩
  have Hb3 : Hid (SrcR k w3 b v l (off + 2)) := Hb2.out.fr hf3 (by simp) (by simp)
  have hp3 : w3.heap[p]? = some (.cells cs pt (0, 0)) := hf3.get (Hf2.out.get Hp.out (by simpa using Hpb.out)) (by simp)
  have Hf3 : Hid (Fr [b] w w3) := Hf2.out.then hf3
  have d0 : w3.cell? ⟨p, po, none⟩ = some (.int .i16 old) := by rw [blk_cell hp3]; exact Hpo.out
  have e0 : w3.frozen? ⟨p, po, none⟩ = false := blk_free hp3 _
  have Hp3 := Lib.hid hp3
  clear hp3 hf3
  go_wp2_with fail
  go_ret
  have F : Fr [b, p] w (w3.setCell ⟨p, po, none⟩ (.int .i16 (IntKind.i16.wrap (val : Int)))) := (Hf3.out.mono (by simp)).setCell (.inl (by simp)) _
  exact ⟨rfl, Hb3.out.fr ((Fr.refl [p] w3).setCell (.inl (by simp)) _) (by simpa using Hpb.out.symm) (by intro g hg; simpa using (Hv.out g hg).2), by rw [Hval.out]; exact blk_set Hp3.out po _, F⟩

set_option maxRecDepth 100000 in
set_option maxHeartbeats 4000000 in
theorem ReadFixed_u32 (k : Bool) (b : Nat) (v : Value) (l : List UInt8) (off : Nat) (p po : Nat) (cs : Array Value) (pt : TypeId) (old : Int) (w : World) (h : SrcR k w b v l off) (hl : off + 4 ≤ l.length)
    (hp : w.heap[p]? = some (.cells cs pt (0, 0))) (hpo : cs[po]? = some (.int .u32 old)) (hpb : p ≠ b) (hb : b < w.heap.size) (hv : ∀ g, v.ownBlock = some g → g < w.heap.size ∧ g ≠ p) :
    Calls Tryz.prog 52 #[srcV k b, .iface 69 (.agg #[]), .iface 134 (.pointer (some ⟨p, po, none⟩))] w fun e w' =>
      e = .returned .nilIface ∧ SrcR k w' b v l (off + 4) ∧ w'.heap[p]? = some (.cells (cs.setIfInBounds po (.int .u32 ((leval ((l.drop off).take 4) : Nat) : Int))) pt (0, 0)) ∧ Fr [b, p] w w' := by
  have ta_pu8 : ∀ (a : Option Addr) (w : World), (Instr.typeAssert (.iface 134 (.pointer a)) 20 155 true).run Tryz.prog w = .ok (.tuple #[.pointer none, .bool false]) w := fun _ _ => by kernel_rfl
  have ta_pi8 : ∀ (a : Option Addr) (w : World), (Instr.typeAssert (.iface 134 (.pointer a)) 20 156 true).run Tryz.prog w = .ok (.tuple #[.pointer none, .bool false]) w := fun _ _ => by kernel_rfl
  have ta_pu16 : ∀ (a : Option Addr) (w : World), (Instr.typeAssert (.iface 134 (.pointer a)) 20 157 true).run Tryz.prog w = .ok (.tuple #[.pointer none, .bool false]) w := fun _ _ => by kernel_rfl
  have ta_pi16 : ∀ (a : Option Addr) (w : World), (Instr.typeAssert (.iface 134 (.pointer a)) 20 158 true).run Tryz.prog w = .ok (.tuple #[.pointer none, .bool false]) w := fun _ _ => by kernel_rfl
  have ta_pu32 : ∀ (a : Option Addr) (w : World), (Instr.typeAssert (.iface 134 (.pointer a)) 20 134 true).run Tryz.prog w = .ok (.tuple #[.pointer a, .bool true]) w := fun _ _ => by kernel_rfl
  have ta_pi32 : ∀ (a : Option Addr) (w : World), (Instr.typeAssert (.iface 134 (.pointer a)) 20 159 true).run Tryz.prog w = .ok (.tuple #[.pointer none, .bool false]) w := fun _ _ => by kernel_rfl
  have hm := m_Uint32
  have hmk : ∀ w, (Instr.makeSlice 26 (.int .i64 4) (.int .i64 4)).run Tryz.prog w = .ok (.slice (some ⟨w.heap.size, 0, none⟩) 4 4) (w.alloc (.cells #[.int .u8 0, .int .u8 0, .int .u8 0, .int .u8 0] 5 (0, 0))) := fun _ => by kernel_rfl
  have H := Lib.hid h
  have Hp := Lib.hid hp
  have Hpo := Lib.hid hpo
  have Hpb := Lib.hid hpb
  have Hv := Lib.hid hv
  have hplt := lt_heap hp
  clear h hp hpo hpb hv
  obtain ⟨x0, x1, x2, x3, hx⟩ : ∃ x0 x1 x2 x3, (l.drop off).take 4 = [x0, x1, x2, x3] := by
    have hxl : ((l.drop off).take 4).length = 4 := by rw [List.length_take, List.length_drop]; omega
    match (l.drop off).take 4, hxl with
    | [x0, x1, x2, x3], _ => exact ⟨x0, x1, x2, x3, rfl⟩
  have Hx := Lib.hid hx
  rw [hx]
  clear hx
  go_enter Tryz.func52, Tryz.ntmps52
  go_wp2_with (go_at_call 70; go_must (refine (readFull_any k b v l off w.heap.size 4 4 _ _ (H.out.fr ((Fr.refl [] w).alloc _) (by simp) (by simp)) (by decide) (by decide) (by decide) hl (blk_new w _) (by rfl) (by omega) (fun h => by have := (Hv.out _ h).1; omega)).mono ?_); rw [Hx.out]; rintro e w2 ⟨rfl, hb2, hg2, hf2⟩; have Hb2 := Lib.hid hb2; have Hg2 := Lib.hid hg2; have Hf2 : Hid (Fr [b] w w2) := ((Fr.refl [b] w).alloc _).trans hf2 (by intro i hi hlt; simp at hi hlt; rcases hi with rfl | rfl; simp; omega); clear hb2 hg2 hf2)
  refine ((Uint32_any w.heap.size 0 4 4 x0 x1 x2 x3 _ (cells_blk Hg2.out) (by decide))).mono ?_
  obtain ⟨val, hval⟩ : ∃ val, leval [x0, x1, x2, x3] = val := ⟨_, rfl⟩
  rw [hval]
  have Hval := Lib.hid hval
  clear hval
  rintro e w3 ⟨rfl, hf3⟩
  have Hb3 : Hid (SrcR k w3 b v l (off + 4)) := Hb2.out.fr hf3 (by simp) (by simp)
  have hp3 : w3.heap[p]? = some (.cells cs pt (0, 0)) := hf3.get (Hf2.out.get Hp.out (by simpa using Hpb.out)) (by simp)
  have Hf3 : Hid (Fr [b] w w3) := Hf2.out.then hf3
  have d0 : w3.cell? ⟨p, po, none⟩ = some (.int .u32 old) := by rw [blk_cell hp3]; exact Hpo.out
  have e0 : w3.frozen? ⟨p, po, none⟩ = false := blk_free hp3 _
  have Hp3 := Lib.hid hp3
  clear hp3 hf3
  go_wp2_with fail
  go_ret
  have F : Fr [b, p] w (w3.setCell ⟨p, po, none⟩ (.int .u32 (val : Int))) := (Hf3.out.mono (by simp)).setCell (.inl (by simp)) _
  exact ⟨rfl, Hb3.out.fr ((Fr.refl [p] w3).setCell (.inl (by simp)) _) (by simpa using Hpb.out.symm) (by intro g hg; simpa using (Hv.out g hg).2), by rw [Hval.out]; exact blk_set Hp3.out po _, F⟩

set_option maxRecDepth 100000 in
set_option maxHeartbeats 4000000 in
theorem ReadFixed_u64 (k : Bool) (b : Nat) (v : Value) (l : List UInt8) (off : Nat) (p po : Nat) (cs : Array Value) (pt : TypeId) (old : Int) (w : World) (h : SrcR k w b v l off) (hl : off + 8 ≤ l.length)
    (hp : w.heap[p]? = some (.cells cs pt (0, 0))) (hpo : cs[po]? = some (.int .u64 old)) (hpb : p ≠ b) (hb : b < w.heap.size) (hv : ∀ g, v.ownBlock = some g → g < w.heap.size ∧ g ≠ p) :
    Calls Tryz.prog 52 #[srcV k b, .iface 69 (.agg #[]), .iface 160 (.pointer (some ⟨p, po, none⟩))] w fun e w' =>
      e = .returned .nilIface ∧ SrcR k w' b v l (off + 8) ∧ w'.heap[p]? = some (.cells (cs.setIfInBounds po (.int .u64 ((leval ((l.drop off).take 8) : Nat) : Int))) pt (0, 0)) ∧ Fr [b, p] w w' := by
  have ta_pu8 : ∀ (a : Option Addr) (w : World), (Instr.typeAssert (.iface 160 (.pointer a)) 20 155 true).run Tryz.prog w = .ok (.tuple #[.pointer none, .bool false]) w := fun _ _ => by kernel_rfl
  have ta_pi8 : ∀ (a : Option Addr) (w : World), (Instr.typeAssert (.iface 160 (.pointer a)) 20 156 true).run Tryz.prog w = .ok (.tuple #[.pointer none, .bool false]) w := fun _ _ => by kernel_rfl
  have ta_pu16 : ∀ (a : Option Addr) (w : World), (Instr.typeAssert (.iface 160 (.pointer a)) 20 157 true).run Tryz.prog w = .ok (.tuple #[.pointer none, .bool false]) w := fun _ _ => by kernel_rfl
  have ta_pi16 : ∀ (a : Option Addr) (w : World), (Instr.typeAssert (.iface 160 (.pointer a)) 20 158 true).run Tryz.prog w = .ok (.tuple #[.pointer none, .bool false]) w := fun _ _ => by kernel_rfl
  have ta_pu32 : ∀ (a : Option Addr) (w : World), (Instr.typeAssert (.iface 160 (.pointer a)) 20 134 true).run Tryz.prog w = .ok (.tuple #[.pointer none, .bool false]) w := fun _ _ => by kernel_rfl
  have ta_pi32 : ∀ (a : Option Addr) (w : World), (Instr.typeAssert (.iface 160 (.pointer a)) 20 159 true).run Tryz.prog w = .ok (.tuple #[.pointer none, .bool false]) w := fun _ _ => by kernel_rfl
  have ta_pu64 : ∀ (a : Option Addr) (w : World), (Instr.typeAssert (.iface 160 (.pointer a)) 20 160 true).run Tryz.prog w = .ok (.tuple #[.pointer a, .bool true]) w := fun _ _ => by kernel_rfl
  have ta_pi64 : ∀ (a : Option Addr) (w : World), (Instr.typeAssert (.iface 160 (.pointer a)) 20 161 true).run Tryz.prog w = .ok (.tuple #[.pointer none, .bool false]) w := fun _ _ => by kernel_rfl
  have hm := m_Uint64
  have hmk : ∀ w, (Instr.makeSlice 26 (.int .i64 8) (.int .i64 8)).run Tryz.prog w = .ok (.slice (some ⟨w.heap.size, 0, none⟩) 8 8) (w.alloc (.cells #[.int .u8 0, .int .u8 0, .int .u8 0, .int .u8 0, .int .u8 0, .int .u8 0, .int .u8 0, .int .u8 0] 5 (0, 0))) := fun _ => by kernel_rfl
  have H := Lib.hid h
  have Hp := Lib.hid hp
  have Hpo := Lib.hid hpo
  have Hpb := Lib.hid hpb
  have Hv := Lib.hid hv
  have hplt := lt_heap hp
  clear h hp hpo hpb hv
  obtain ⟨x0, x1, x2, x3, x4, x5, x6, x7, hx⟩ : ∃ x0 x1 x2 x3 x4 x5 x6 x7, (l.drop off).take 8 = [x0, x1, x2, x3, x4, x5, x6, x7] := by
    have hxl : ((l.drop off).take 8).length = 8 := by rw [List.length_take, List.length_drop]; omega
    match (l.drop off).take 8, hxl with
    | [x0, x1, x2, x3, x4, x5, x6, x7], _ => exact ⟨x0, x1, x2, x3, x4, x5, x6, x7, rfl⟩
  have Hx := Lib.hid hx
  rw [hx]
  clear hx
  go_enter Tryz.func52, Tryz.ntmps52
  go_wp2_with (go_at_call 70; go_must (refine (readFull_any k b v l off w.heap.size 8 8 _ _ (H.out.fr ((Fr.refl [] w).alloc _) (by simp) (by simp)) (by decide) (by decide) (by decide) hl (blk_new w _) (by rfl) (by omega) (fun h => by have := (Hv.out _ h).1; omega)).mono ?_); rw [Hx.out]; rintro e w2 ⟨rfl, hb2, hg2, hf2⟩; have Hb2 := Lib.hid hb2; have Hg2 := Lib.hid hg2; have Hf2 : Hid (Fr [b] w w2) := ((Fr.refl [b] w).alloc _).trans hf2 (by intro i hi hlt; simp at hi hlt; rcases hi with rfl | rfl; simp; omega); clear hb2 hg2 hf2)
  refine ((Uint64_any w.heap.size 0 8 8 [x0, x1, x2, x3, x4, x5, x6, x7] _ (cells_blk Hg2.out) (by rfl) (by decide) (by decide) (by decide))).mono ?_
  obtain ⟨val, hval⟩ : ∃ val, leval [x0, x1, x2, x3, x4, x5, x6, x7] = val := ⟨_, rfl⟩
  rw [hval]
  have Hval := Lib.hid hval
  clear hval
  rintro e w3 ⟨rfl, hf3⟩
  have Hb3 : Hid (SrcR k w3 b v l (off + 8)) := Hb2.out.fr hf3 (by simp) (by simp)
  have hp3 : w3.heap[p]? = some (.cells cs pt (0, 0)) := hf3.get (Hf2.out.get Hp.out (by simpa using Hpb.out)) (by simp)
  have Hf3 : Hid (Fr [b] w w3) := Hf2.out.then hf3
  have d0 : w3.cell? ⟨p, po, none⟩ = some (.int .u64 old) := by rw [blk_cell hp3]; exact Hpo.out
  have e0 : w3.frozen? ⟨p, po, none⟩ = false := blk_free hp3 _
  have Hp3 := Lib.hid hp3
  clear hp3 hf3
  go_wp2_with fail
  go_ret
  have F : Fr [b, p] w (w3.setCell ⟨p, po, none⟩ (.int .u64 (val : Int))) := (Hf3.out.mono (by simp)).setCell (.inl (by simp)) _
  exact ⟨rfl, Hb3.out.fr ((Fr.refl [p] w3).setCell (.inl (by simp)) _) (by simpa using Hpb.out.symm) (by intro g hg; simpa using (Hv.out g hg).2), by rw [Hval.out]; exact blk_set Hp3.out po _, F⟩

end Go.Proofs.YtahohmdfllgedaaGreat

namespace Go.Proofs.YtahohmdfllgedaaGreat
open Go.RowKit

set_option maxRecDepth 100000 in
set_option maxHeartbeats 4000000 in
theorem ReadUintRaw_2 (k : Bool) (b : Nat) (v : Value) (l : List UInt8) (off : Nat) (w : World) (h : SrcR k w b v l off) (hl : off + 2 ≤ l.length) (hb : b < w.heap.size) (hv : ∀ g, v.ownBlock = some g → g < w.heap.size) :
    Calls Tryz.prog 94 #[srcV k b, .iface 69 (.agg #[]), .int .i64 2] w fun e w' =>
      e = .returned (.tuple #[.int .u64 ((leval ((l.drop off).take 2) : Nat) : Int), .nilIface]) ∧ SrcR k w' b v l (off + 2) ∧ Fr [b] w w' := by
  have H := Lib.hid h
  have Hv := Lib.hid hv
  have hx := leval_lt ((l.drop off).take 2)
  rw [show ((l.drop off).take 2).length = 2 by rw [List.length_take, List.length_drop]; omega] at hx
  obtain ⟨val, hval⟩ : ∃ val, leval ((l.drop off).take 2) = val := ⟨_, rfl⟩
  rw [hval] at hx ⊢
  have hx2 : (val : Int) < 65536 := by omega
  have hx3 : (0 : Int) ≤ (val : Int) := by omega
  have Hval := Lib.hid hval
  clear h hv hval hx
  go_enter Tryz.func94, Tryz.ntmps94
  go_wp2_with (go_at_call 52; go_must (refine (ReadFixed_u16 k b v l off w.heap.size 0 #[.int .u16 0] 167 0 _ (H.out.fr ((Fr.refl [] w).alloc _) (by simp) (by simp)) hl (blk_new w _) (by rfl) (by omega) (by simp; omega) (fun g hg => by have := Hv.out g hg; simp; omega)).mono ?_); rw [Hval.out])
  rintro e w2 ⟨rfl, hb2, hp2, hf2⟩
  have hq2 : w2.heap[w.heap.size]? = some (.cells #[.int .u16 (val : Int)] 167 (0, 0)) := by simpa using hp2
  have c0 : w2.cell? ⟨w.heap.size, 0, none⟩ = some (.int .u16 (val : Int)) := by rw [blk_cell hq2]; rfl
  have Hb2 := Lib.hid hb2
  have Hf2 : Hid (Fr [b] w w2) := ((Fr.refl [b] w).alloc _).trans hf2 (by intro i hi hlt; simp at hi hlt; rcases hi with rfl | rfl; simp; omega)
  clear hb2 hp2 hf2 hq2
  go_wp2_with fail
  go_ret2
  exact ⟨rfl, Hb2.out, Hf2.out⟩

set_option maxRecDepth 100000 in
set_option maxHeartbeats 4000000 in
theorem ReadUintRaw_4 (k : Bool) (b : Nat) (v : Value) (l : List UInt8) (off : Nat) (w : World) (h : SrcR k w b v l off) (hl : off + 4 ≤ l.length) (hb : b < w.heap.size) (hv : ∀ g, v.ownBlock = some g → g < w.heap.size) :
    Calls Tryz.prog 94 #[srcV k b, .iface 69 (.agg #[]), .int .i64 4] w fun e w' =>
      e = .returned (.tuple #[.int .u64 ((leval ((l.drop off).take 4) : Nat) : Int), .nilIface]) ∧ SrcR k w' b v l (off + 4) ∧ Fr [b] w w' := by
  have H := Lib.hid h
  have Hv := Lib.hid hv
  have hx := leval_lt ((l.drop off).take 4)
  rw [show ((l.drop off).take 4).length = 4 by rw [List.length_take, List.length_drop]; omega] at hx
  obtain ⟨val, hval⟩ : ∃ val, leval ((l.drop off).take 4) = val := ⟨_, rfl⟩
  rw [hval] at hx ⊢
  have hx2 : (val : Int) < 4294967296 := by omega
  have hx3 : (0 : Int) ≤ (val : Int) := by omega
  have Hval := Lib.hid hval
  clear h hv hval hx
  go_enter Tryz.func94, Tryz.ntmps94
  go_wp2_with (go_at_call 52; go_must (refine (ReadFixed_u32 k b v l off w.heap.size 0 #[.int .u32 0] 99 0 _ (H.out.fr ((Fr.refl [] w).alloc _) (by simp) (by simp)) hl (blk_new w _) (by rfl) (by omega) (by simp; omega) (fun g hg => by have := Hv.out g hg; simp; omega)).mono ?_); rw [Hval.out])
  rintro e w2 ⟨rfl, hb2, hp2, hf2⟩
  have hq2 : w2.heap[w.heap.size]? = some (.cells #[.int .u32 (val : Int)] 99 (0, 0)) := by simpa using hp2
  have c0 : w2.cell? ⟨w.heap.size, 0, none⟩ = some (.int .u32 (val : Int)) := by rw [blk_cell hq2]; rfl
  have Hb2 := Lib.hid hb2
  have Hf2 : Hid (Fr [b] w w2) := ((Fr.refl [b] w).alloc _).trans hf2 (by intro i hi hlt; simp at hi hlt; rcases hi with rfl | rfl; simp; omega)
  clear hb2 hp2 hf2 hq2
  go_wp2_with fail
  go_ret2
  exact ⟨rfl, Hb2.out, Hf2.out⟩

set_option maxRecDepth 100000 in
set_option maxHeartbeats 4000000 in
theorem ReadUintRaw_8 (k : Bool) (b : Nat) (v : Value) (l : List UInt8) (off : Nat) (w : World) (h : SrcR k w b v l off) (hl : off + 8 ≤ l.length) (hb : b < w.heap.size) (hv : ∀ g, v.ownBlock = some g → g < w.heap.size) :
    Calls Tryz.prog 94 #[srcV k b, .iface 69 (.agg #[]), .int .i64 8] w fun e w' =>
      e = .returned (.tuple #[.int .u64 ((leval ((l.drop off).take 8) : Nat) : Int), .nilIface]) ∧ SrcR k w' b v l (off + 8) ∧ Fr [b] w w' := by
  have H := Lib.hid h
  have Hv := Lib.hid hv
  have hx := leval_lt ((l.drop off).take 8)
  rw [show ((l.drop off).take 8).length = 8 by rw [List.length_take, List.length_drop]; omega] at hx
  obtain ⟨val, hval⟩ : ∃ val, leval ((l.drop off).take 8) = val := ⟨_, rfl⟩
  rw [hval] at hx ⊢
  have hx2 : (val : Int) < 18446744073709551616 := by omega
  have hx3 : (0 : Int) ≤ (val : Int) := by omega
  have Hval := Lib.hid hval
  clear h hv hval hx
  go_enter Tryz.func94, Tryz.ntmps94
  go_wp2_with (go_at_call 52; go_must (refine (ReadFixed_u64 k b v l off w.heap.size 0 #[.int .u64 0] 23 0 _ (H.out.fr ((Fr.refl [] w).alloc _) (by simp) (by simp)) hl (blk_new w _) (by rfl) (by omega) (by simp; omega) (fun g hg => by have := Hv.out g hg; simp; omega)).mono ?_); rw [Hval.out])
  rintro e w2 ⟨rfl, hb2, hp2, hf2⟩
  have hq2 : w2.heap[w.heap.size]? = some (.cells #[.int .u64 (val : Int)] 23 (0, 0)) := by simpa using hp2
  have c0 : w2.cell? ⟨w.heap.size, 0, none⟩ = some (.int .u64 (val : Int)) := by rw [blk_cell hq2]; rfl
  have Hb2 := Lib.hid hb2
  have Hf2 : Hid (Fr [b] w w2) := ((Fr.refl [b] w).alloc _).trans hf2 (by intro i hi hlt; simp at hi hlt; rcases hi with rfl | rfl; simp; omega)
  clear hb2 hp2 hf2 hq2
  go_wp2_with fail
  go_ret2
  exact ⟨rfl, Hb2.out, Hf2.out⟩

set_option maxRecDepth 100000 in
set_option maxHeartbeats 4000000 in
/-- Next, where so many bytes are left. -/
theorem BufNext_any (b : Nat) (v : Value) (l : List UInt8) (off m : Nat) (rd : Bool) (w : World) (h : BufR w b v l off rd) (hm : off + m ≤ l.length) (hp : 0 < l.length) :
    Calls Tryz.prog 72 #[.pointer (some ⟨b, 0, none⟩), .int .i64 (m : Int)] w fun e w' =>
      (∃ a c, e = .returned (.slice a m c) ∧ Sl w' (.slice a m c) (vbs ((l.drop off).take m)) ∧ (∀ g, (Value.slice a m c).ownBlock = some g → v.ownBlock = some g)) ∧ BufR w' b v l (off + m) (decide (0 < m)) ∧ Fr [b] w w' := by
  obtain ⟨hb, hs, hne, -, hl⟩ := h
  obtain ⟨a, cc, rfl, h1, h2, h3, h4⟩ := hs.shape
  obtain ⟨gs, os, rfl, hc⟩ := h3 hp
  unfold maxLen at h2
  have c2 : w.cell? ⟨b, 2, none⟩ = some (.bool rd) := by rw [blk_cell hb]; rfl
  have f2 : w.frozen? ⟨b, 2, none⟩ = false := blk_free hb _
  have hb1 : (w.setCell ⟨b, 2, none⟩ (.bool false)).heap[b]? = some (.cells #[.slice (some ⟨gs, os, none⟩) l.length cc, .int .i64 (off : Int), .bool false] 132 (0, 0)) := by simpa using blk_set hb 2 (.bool false)
  have hF1 : Fr [b] w (w.setCell ⟨b, 2, none⟩ (.bool false)) := (Fr.refl _ _).setCell (.inl (by simp)) _
  have hs1 : Sl (w.setCell ⟨b, 2, none⟩ (.bool false)) (.slice (some ⟨gs, os, none⟩) l.length cc) (vbs l) := hs.fr hF1 (by intro g hg; simp; rintro rfl; exact hne hg)
  have hB1 : BufR (w.setCell ⟨b, 2, none⟩ (.bool false)) b (.slice (some ⟨gs, os, none⟩) l.length cc) l off false := ⟨hb1, hs1, hne, by omega, hl⟩
  generalize hw1 : w.setCell ⟨b, 2, none⟩ (.bool false) = w1 at *
  have c0 : w1.cell? ⟨b, 0, none⟩ = some (.slice (some ⟨gs, os, none⟩) l.length cc) := by rw [blk_cell hb1]; rfl
  have c1 : w1.cell? ⟨b, 1, none⟩ = some (.int .i64 (off : Int)) := by rw [blk_cell hb1]; rfl
  have HB1 := Lib.hid hB1
  have Hb1 := Lib.hid hb1
  have HF1 := Lib.hid hF1
  have Hs1 := Lib.hid hs1
  have Hw1 := Lib.hid hw1
  have Hne := Lib.hid hne
  have hlo : ¬ ((l.length - off : Nat) : Int) < (m : Int) := by omega
  have t1 : (off : Int) + (m : Int) ≤ (l.length : Int) := by omega
  have t2 : (off : Int) + (m : Int) ≤ (cc : Int) := by omega
  have t3 : (off : Int) ≤ (off : Int) + (m : Int) := by omega
  have Hc : Hid (Cells w1 gs (os + off) (vbs ((l.drop off).take m))) := drop_take_cells (hc.fr HF1.out (by simpa [Value.ownBlock] using hne)) off m
  have Hml : Hid (((l.drop off).take m).length = m) := by show _ = _; rw [List.length_take, List.length_drop]; omega
  have hlen : (off : Int) ≤ (l.length : Int) := by omega
  have hcap : (off : Int) ≤ (cc : Int) := by omega
  have hof : (off : Int) ≤ 1099511627776 := by omega
  have t0 : (0 : Int) ≤ (m : Int) := by omega
  have e1 : IntKind.i64.wrap ((off : Int) + (m : Int)) = (off : Int) + (m : Int) := IntWalk.i64_in _ (by omega)
  have e2 : ((off : Int) + (m : Int)).toNat = off + m := by omega
  have e3 : off + m - off = m := by omega
  have E1 := Lib.hid e1
  have E2 := Lib.hid e2
  have E3 := Lib.hid e3
  clear e1 e2 e3 hb hs hne h1 h3 h4 hb1 hF1 hs1 hB1 hw1 hc
  have d2 : w1.cell? ⟨b, 2, none⟩ = some (.bool false) := by rw [blk_cell Hb1.out]; rfl
  have g1 : w1.frozen? ⟨b, 1, none⟩ = false := blk_free Hb1.out _
  have g2 : w1.frozen? ⟨b, 2, none⟩ = false := blk_free Hb1.out _
  have fin : ∀ k (wz : World), wz = ((w1.drewN k).setCell ⟨b, 1, none⟩ (.int .i64 ((off : Int) + (m : Int)))).setCell ⟨b, 2, none⟩ (.bool (decide (0 < m))) →
      BufR wz b (.slice (some ⟨gs, os, none⟩) l.length cc) l (off + m) (decide (0 < m)) ∧ Fr [b] w wz ∧ Fr [b] w1 wz := by
    intro k wz hz
    subst hz
    have f : Fr [b] w1 (((w1.drewN k).setCell ⟨b, 1, none⟩ (.int .i64 ((off : Int) + (m : Int)))).setCell ⟨b, 2, none⟩ (.bool (decide (0 < m)))) := (((Fr.refl _ _).drewN _).setCell (.inl (by simp)) _).setCell (.inl (by simp)) _
    refine ⟨⟨?_, Hs1.out.fr f (by intro g hg; simp; rintro rfl; exact Hne.out hg), Hne.out, by omega, hl⟩, HF1.out.trans f (fun i h _ => h), f⟩
    simpa using blk_set (w := (w1.drewN k).setCell ⟨b, 1, none⟩ (.int .i64 ((off : Int) + (m : Int)))) (blk_set (w := w1.drewN k) Hb1.out 1 _) 2 (.bool (decide (0 < m)))
  have Fin := Lib.hid fin
  clear fin
  have hne2 : gs ∉ [b] := by have := Hne.out; simpa [Value.ownBlock] using this
  have Hne2 := Lib.hid hne2
  clear hne2
  by_cases hcc : cc = off
  · subst hcc
    have e1 := E1.out
    have e2 := E2.out
    go_enter Tryz.func72, Tryz.ntmps72
    go_wp2_with (go_at_call 41; rw [Hw1.out]; refine (BufLen_any b _ l cc (l.length - cc) false _ HB1.out (by omega)).mono ?_; rintro e w' ⟨rfl, k, rfl⟩)
    go_quiet (fail)
    go_wp2_with fail
    go_ret
    obtain ⟨q1, q2, q3⟩ := Fin.out (k + nq) _ rfl
    refine ⟨⟨_, _, rfl, ?_, fun g hg => hg⟩, q1, q2⟩
    have hz : (l.drop cc).take m = [] := List.eq_nil_of_length_eq_zero (by rw [Hml.out]; omega)
    rw [hz]
    exact sl_mk (by simp; omega) (by omega) (by unfold maxLen; omega) (fun i v hi => by simp at hi)
  · have e1 := E1.out
    have e2 := E2.out
    go_enter Tryz.func72, Tryz.ntmps72
    go_wp2_with (go_at_call 41; rw [Hw1.out]; refine (BufLen_any b _ l off (l.length - off) false _ HB1.out (by omega)).mono ?_; rintro e w' ⟨rfl, k, rfl⟩)
    go_quiet (fail)
    go_wp2_with fail
    go_ret
    obtain ⟨q1, q2, q3⟩ := Fin.out (k + nq) _ rfl
    refine ⟨⟨_, _, rfl, ?_, fun g hg => hg⟩, q1, q2⟩
    exact sl_mk (by rw [List.length_map, Hml.out]) (by omega) (by unfold maxLen; omega) (Hc.out.fr q3 Hne2.out)

end Go.Proofs.YtahohmdfllgedaaGreat
