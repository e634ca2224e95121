/- spec.Section. -/
import Derived.Test.YtahohmdfllgedaaPadd
import Derived.Test.YtahohmdfllgedaaOwn
import Derived.Test.YtahohmdfllgedaaRight2
namespace Go.Proofs.Ytahohmdfllgedaa
open Go.RowKit

/-- Bytes that the walk has made since w, in v. -/
def Own (w : World) (l : List UInt8) (v : Value) (wx : World) : Prop :=
  ∃ a c, v = .slice a l.length c ∧ wx.ownsRow w.heap.size 5 1 (.slice a l.length c) l.length (vbs l) ∧ Fr [] w wx

theorem Own.of {w wx : World} {a : Option Addr} {c : Nat} {l k : List UInt8} (h : wx.ownsRow w.heap.size 5 1 (.slice a (l.length + k.length) c) (l.length + k.length) (vbs l ++ vbs k)) (f : Fr [] w wx) :
    Own w (l ++ k) (.slice a (l.length + k.length) c) wx := ⟨a, c, by rw [List.length_append], by rw [List.length_append, vbs_app]; exact h, f⟩

theorem cc_right {c : LCall} (h : ccB c = true) : callRightB c.op c.a c.b c.data.length = true := by
  simp [ccB, crB] at h; exact h.1.1.1.1.1.1.1
theorem cf_right {c : LCall} (h : cfB c = true) : callRightB c.op c.a c.b c.data.length = true := by
  simp [cfB, crB] at h; exact h.1
theorem rc_facts {c : LCommon} (h : rcB c = true) :
    (c.version = 1 ∨ c.version = 3) ∧ 1 ≤ c.code ∧ c.code ≤ 64 ∧ -64 ≤ c.offset ∧ c.offset ≤ 64 ∧ 0 ≤ c.ret ∧ c.ret ≤ 127 ∧ c.frames.length ≤ 8 ∧ c.calls.length ≤ 20 ∧
      (∀ x ∈ c.calls, ccB x = true) ∧ ∀ f ∈ c.frames, frB f = true := by
  simp only [rcB, Bool.and_eq_true, hdB, decide_eq_true_eq, List.all_eq_true] at h
  obtain ⟨⟨⟨h1, h2, h3, _, h5, h6, h7, h8, h9, h10⟩, h11⟩, h12⟩ := h
  exact ⟨h1, h2, h3, h5, h6, h7, h8, h9, h10, h11, h12⟩
theorem fr_facts {f : LFrame} (h : frB f = true) : ¬ f.size = 0 ∧ f.size ≤ 1048576 ∧ f.start ≤ 1099511627776 ∧ f.calls.length ≤ 40 ∧ ∀ x ∈ f.calls, cfB x = true := by
  simp only [frB, Bool.and_eq_true, decide_eq_true_eq, List.all_eq_true] at h
  obtain ⟨⟨h1, h2, h3, h4⟩, h5⟩ := h
  exact ⟨h1, h2, h3, h4, h5⟩

theorem cieL_len {c : LCommon} (h : rcB c = true) (hi : ∀ x ∈ c.calls, i64 x.a ∧ i64 x.b) : (cieL c).length ≤ 2900 := by
  obtain ⟨_, _, h2, h3, h4, h5, h6, _, h7, h8, _⟩ := rc_facts h
  have e1 := uleb_le10 (n := c.code) (by omega)
  have e2 := sleb_le10 (n := c.offset) (by omega) (by omega)
  have e3 := uleb_le10 (n := c.ret.toNat) (by omega)
  have e4 := callsL_len c.calls (fun x hx => callL_len x (cc_right (h8 x hx)) (hi x hx).1 (hi x hx).2)
  simp [cieL, leL_length]; omega
theorem fdeL_len {n : Nat} {f : LFrame} (h : frB f = true) (hi : ∀ x ∈ f.calls, i64 x.a ∧ i64 x.b) : (fdeL n f).length ≤ 5700 := by
  obtain ⟨_, _, _, h4, h5⟩ := fr_facts h
  have e4 := callsL_len f.calls (fun x hx => callL_len x (cf_right (h5 x hx)) (hi x hx).1 (hi x hx).2)
  simp [fdeL, leL_length]; omega

theorem rcall_all {W : World} {v : Value} {l : List LCall} (h : RSl 4 (RCall W) W v l) : ∀ x ∈ l, i64 x.a ∧ i64 x.b := by
  intro x hx
  obtain ⟨i, hi, rfl⟩ := List.getElem_of_mem hx
  obtain ⟨a, c, rfl⟩ := rsl_form h
  obtain ⟨g, o, -, -, hel⟩ := h.elem (by decide) (by omega)
  obtain ⟨vs, -, ⟨dv, -, -, -, h1, h2⟩, -⟩ := hel i hi
  exact ⟨h1, h2⟩
theorem padded_own {w0 w : World} {a : Option Addr} {n c : Nat} {l : List UInt8} (h : OwnR w0 w a n c l) (hl : n ≤ 1073741824) :
    Calls Try.prog 49 #[.slice a n c] w fun e w' => ∃ a' c', e = .returned (.slice a' (padL l).length c') ∧ OwnR w0 w' a' (padL l).length c' (padL l) := by
  obtain rfl := h.len
  refine (padded_any w0.heap.size a c l w h.own h.fr.size hl).mono ?_
  rintro e w' ⟨a', c', rfl, ho, hf⟩
  exact ⟨a', c', rfl, rfl, own_base ho h.fr.size, h.then hf⟩
def framesL (n : Nat) (l : List LFrame) : List UInt8 := l.flatMap fun f => padL (fdeL n f)
theorem framesL_take (n : Nat) (l : List LFrame) (k : Nat) (hk : k < l.length) : framesL n (l.take (k + 1)) = framesL n (l.take k) ++ padL (fdeL n l[k]) := by
  rw [framesL, List.take_succ_eq_append_getElem hk, List.flatMap_append]; simp [framesL]

set_option maxRecDepth 100000 in
set_option maxHeartbeats 20000000 in
theorem Section_any (W : World) (v : Value) (l : List LCommon) (w : World) (h : RList W v l) (hw : Fr [] W w) (hl : l.length ≤ 8) (hr : ∀ c ∈ l, rcB c = true) :
    Calls Try.prog 23 #[v] w (Made (sectionL l) w) := by
  obtain ⟨a0, c0, rfl, h1, h2⟩ := RSl.shape h
  have H := Lib.hid h
  have Hw := Lib.hid hw
  have Hr := Lib.hid hr
  clear h hw hr
  go_enter Try.func23, Try.ntmps23
  go_wp2_with fail
  go_loopw [3, 13] (fun v i wr => ∃ k : Nat, ∃ out : List UInt8, ∃ a c, k ≤ l.length ∧ out = secFrom 0 (l.take k) ∧ i = .int .i64 (k : Int) ∧ v = .slice a out.length c ∧ out.length ≤ k * 50000 ∧
      wr.ownsRow w.heap.size 5 1 (.slice a out.length c) out.length (vbs out) ∧ Fr [] w wr) (fun _ i _ => l.length - (intOf i).toNat)
  case atStart => exact ⟨0, [], none, 0, Nat.zero_le _, rfl, rfl, rfl, by simp, World.ownsRow_nil _ _ _ _, Fr.refl _ _⟩
  case round =>
    obtain ⟨wo, rfl⟩ : ∃ wo : World, wo = wr := ⟨_, rfl⟩
    obtain ⟨k, out, a, c, hk, hout, rfl, rfl, hlen, hown, hfr⟩ := hrel
    have Hout := Lib.hid hout
    have Hown := Lib.hid hown
    have Hfr := Lib.hid hfr
    clear hout hown hfr
    by_cases hlt : k < l.length
    case neg =>
      obtain rfl : k = l.length := by omega
      clear hlt
      go_wp2
      go_ret
      have e : out = sectionL l := by rw [Hout.out, List.take_length]; rfl
      subst e
      exact ⟨a, c, rfl, Hown.out, Hfr.out⟩
    case pos =>
      obtain ⟨g, o, ca, cc, fa, fc, rfl, d0, d1, d2, d3, d4, d5, hd, he, hi1, hi2, hi3, hi4⟩ := common_at H.out (Hw.out.then Hfr.out) k hlt
      have hstep := secFrom_take l 0 k hlt
      have hright := Hr.out _ (List.getElem_mem hlt)
      generalize l[k] = x at *
      obtain ⟨xv, xcode, xoff, xret, xcalls, xframes⟩ := x
      simp only at d0 d1 d2 d3 d4 d5
      rw [← Hout.out, Nat.zero_add] at hstep
      have hq := rc_facts hright
      simp only at hq
      obtain ⟨q1, q2, q3, q4, q5, q6, q7, q8, q9, q10, q11⟩ := hq
      have Hs := Lib.hid (And.intro hstep (And.intro hright (And.intro hd (And.intro he (And.intro q10 q11)))))
      clear hstep hright hd he q10 q11
      go_upto_region 6 with (fail)
      have hB1 : (wo.alloc (.cells #[.int .i64 xv, .int .u64 (xcode : Int), .int .i64 xoff, .int .i64 xret, .slice ca xcalls.length cc, .slice fa xframes.length fc] 44)).heap[wo.heap.size]? = some (.cells #[.int .i64 xv, .int .u64 (xcode : Int), .int .i64 xoff, .int .i64 xret, .slice ca xcalls.length cc, .slice fa xframes.length fc] 44 (0, 0)) := blk_new _ _
      have hF1 : Fr [] wo (wo.alloc (.cells #[.int .i64 xv, .int .u64 (xcode : Int), .int .i64 xoff, .int .i64 xret, .slice ca xcalls.length cc, .slice fa xframes.length fc] 44)) := (Fr.refl _ _).alloc _
      generalize wo.alloc (.cells #[.int .i64 xv, .int .u64 (xcode : Int), .int .i64 xoff, .int .i64 xret, .slice ca xcalls.length cc, .slice fa xframes.length fc] 44) = w1 at *
      have k0 := blk_cell hB1 0
      have B1 := Lib.hid hB1
      have F1 := Lib.hid hF1
      have HO1 : Hid (w1.ownsRow w.heap.size 5 1 (.slice a out.length c) out.length (vbs out)) := own_fr Hown.out hF1 (by simp)
      clear hB1 hF1 d0 d1 d2 d3 d4 d5
      obtain ⟨y, hy⟩ : ∃ y, UInt8.ofNat xv.toNat = y := ⟨_, rfl⟩
      obtain ⟨b0, hb0⟩ : ∃ b0, leL 4294967295 4 = b0 := ⟨_, rfl⟩
      have hb0l : b0.length = 4 := by rw [← hb0]; exact leL_length 4 _
      have hyv : IntKind.u8.wrap xv = ((y.toNat : Nat) : Int) := by
        rw [← hy]; rcases q1 with rfl | rfl <;> rfl
      have Hy := Lib.hid hy
      have HB0 := Lib.hid hb0
      have Hb0l := Lib.hid hb0l
      have Hyv := Lib.hid hyv
      clear hy hb0 hb0l hyv
      go_cut [7] from 19 to 24 (fun s7 wx => Own w1 (b0 ++ [y, 0]) s7 wx)
      case first =>
        as_aux_lemma =>
        have hyv := Hyv.out
        go_region_held3 (fun w' => w'.cell? ⟨wo.heap.size, 0, none⟩ = some (.int .i64 xv)) (first | assumption | exact Hf4.out.cell (by assumption) Hn4.out | exact Hf3.out.cell (by assumption) (by simp) | exact ((Fr.refl [] _).alloc _).cell (by assumption) (by simp))
          (first | (go_at_call 48; refine (Little_ints 4294967295 4 _ _ (by rfl) (by rfl) (by decide) (by decide) _).mono ?_; rw [HB0.out]; rintro e w3 ⟨a3, c3, rfl, ho3, hf3⟩; have Ho3 : Hid (w3.ownsRow w1.heap.size 5 1 (.slice a3 b0.length c3) b0.length (vbs b0)) := own_base ho3 (by first | exact Nat.le_refl _ | (simp; done) | (simp; omega)); have Hf3 := Lib.hid hf3; clear ho3 hf3) | (refine step_app2 sliceB _ (by rfl) _ _ (by rfl) w1.heap.size _ b0.length (vbs b0) (by rfl) (own_fr Ho3.out ((Fr.refl [] w3).alloc _) (by simp)) (some ⟨_, 0, none⟩) 2 2 (vbs [y, 0]) (by rfl) (by rfl) (by simp) (news_blk (blk_new w3 _)) (vbs_one _) (by rw [Hb0l.out]; decide) (by decide) (by have := Hf3.out.size; simp at this ⊢; omega) ?_; intro a4 c4 w4 ho4 hf4 hg4; have HF4 : Hid (Fr [] w1 w4) := Fr.app ((((Fr.refl [] w1).drew).then Hf3.out).alloc _) Ho3.out (Nat.le_refl _) hf4; have Ho4 := Lib.hid ho4; have Hf4 := Lib.hid hf4; have Hn4 : Hid (wo.heap.size ∉ (Value.slice a3 b0.length c3).ownBlock.toList) := (fun h => by have h1 := own_ge Ho3.out (by simpa using h); have h2 := lt_heap B1.out; omega); clear ho4 hf4 hg4) | (refine step_app2 sliceB _ (by rfl) _ _ (by rfl) w1.heap.size _ b0.length (vbs b0) (by rfl) Ho3.out (some ⟨_, 0, none⟩) 2 2 (vbs [y, 0]) (by rfl) (by rfl) (by simp) (news_blk (Hf3.out.get (blk_new w1.drew _) (by simp))) (vbs_one _) (by rw [Hb0l.out]; decide) (by decide) (by have := Hf3.out.size; simp at this ⊢; omega) ?_; intro a4 c4 w4 ho4 hf4 hg4; have HF4 : Hid (Fr [] w1 w4) := Fr.app ((((Fr.refl [] w1).drew).alloc _).then Hf3.out) Ho3.out (Nat.le_refl _) hf4; have Ho4 := Lib.hid ho4; have Hf4 := Lib.hid hf4; have Hn4 : Hid (wo.heap.size ∉ (Value.slice a3 b0.length c3).ownBlock.toList) := (fun h => by have h1 := own_ge Ho3.out (by simpa using h); have h2 := lt_heap B1.out; omega); clear ho4 hf4 hg4))
        all_goals
          go_wp2_with fail
          go_meet
          exact Own.of Ho4.out HF4.out
      case rest =>
        clear k0
        obtain ⟨a7, c7, rfl, ho7, hf7⟩ := hcut
        have hl7 : (b0 ++ [y, 0]).length = 6 := by rw [List.length_append, Hb0l.out]; rfl
        have hb7 := hf7.get B1.out (by simp)
        have k1 := blk_cell hb7 1
        have k2 := blk_cell hb7 2
        have k3 := blk_cell hb7 3
        obtain ⟨L7, hL7⟩ : ∃ L7, b0 ++ [y, 0] = L7 := ⟨_, rfl⟩
        rw [hL7] at ho7 hl7 ⊢
        have R7 : Hid (OwnR w1 wc a7 L7.length c7 L7) := ⟨rfl, ho7, hf7⟩
        have HL7 := Lib.hid hL7
        have hle7 : L7.length ≤ 6 := by omega
        obtain ⟨r, rfl⟩ := Int.eq_ofNat_of_zero_le q6
        have hwr : IntKind.u64.wrap (r : Int) = (r : Int) := by simp [IntKind.wrap, IntKind.signed, IntKind.bits]; omega
        have e1 := uleb_le10 (n := xcode) (by omega)
        have e2 := sleb_le10 (n := xoff) (by omega) (by omega)
        have e3 := uleb_le10 (n := r) (by omega)
        have HK : Hid (∀ w', Fr [] w1 w' → w'.cell? ⟨wo.heap.size, 1, none⟩ = some (.int .u64 (xcode : Int)) ∧ w'.cell? ⟨wo.heap.size, 2, none⟩ = some (.int .i64 xoff) ∧ w'.cell? ⟨wo.heap.size, 3, none⟩ = some (.int .i64 (r : Int))) :=
          fun w' f => ⟨blk_cell (f.get B1.out (by simp)) 1, blk_cell (f.get B1.out (by simp)) 2, blk_cell (f.get B1.out (by simp)) 3⟩
        clear hL7 ho7 hf7 hl7 hb7
        obtain ⟨LT, hLT⟩ : ∃ LT, L7 ++ uleb xcode ++ sleb xoff ++ uleb r = LT := ⟨_, rfl⟩
        have hnT : LT.length ≤ 36 := by rw [← hLT]; simp; omega
        have HLT := Lib.hid hLT
        clear hLT
        go_upto_region 7 with (fail)
        go_cut [7] from 25 to 38 (fun s7 wx => ∃ a n c, s7 = .slice a n c ∧ OwnR w1 wx a n c LT)
        case first =>
          as_aux_lemma =>
          go_region_held3 (fun w' => w'.cell? ⟨wo.heap.size, 1, none⟩ = some (.int .u64 (xcode : Int)) ∧ w'.cell? ⟨wo.heap.size, 2, none⟩ = some (.int .i64 xoff) ∧ w'.cell? ⟨wo.heap.size, 3, none⟩ = some (.int .i64 (r : Int)))
            (first | exact HK.out _ R6.out.fr | exact HK.out _ R5.out.fr | exact HK.out _ R4.out.fr | exact HK.out _ R3.out.fr | exact HK.out _ R2.out.fr | exact HK.out _ R1.out.fr | exact HK.out _ R7.out.fr.drew)
            (first | (have _t := R5; refine (OwnR.app_step R5.out SC.out (by rfl) _ _ (by rfl) (by rfl) (by rfl) (by omega) ?_); intro a6 c6 w6 ho6 hf6; have R6 := Lib.hid ho6; clear ho6 hf6)
                   | (have _t := R4; go_at_call 10; go_must (refine (Unsigned_any r (by omega) _).mono ?_); rintro e wC ⟨aC, cC, rfl, hoC, hfC⟩; have SC : Hid (Sl wC (.slice aC (uleb r).length cC) (vbs (uleb r))) := own_sl hoC; have R5 := Lib.hid (R4.out.call hfC); clear hoC hfC)
                   | (have _t := R3; refine (OwnR.app_step R3.out SB.out (by rfl) _ _ (by rfl) (by rfl) (by rfl) (by omega) ?_); intro a4 c4 w4 ho4 hf4; have R4 := Lib.hid ho4; clear ho4 hf4)
                   | (have _t := R2; go_at_call 16; go_must (refine (Signed_any xoff (by omega) (by omega) _).mono ?_); rintro e wB ⟨aB, cB, rfl, hoB, hfB⟩; have SB : Hid (Sl wB (.slice aB (sleb xoff).length cB) (vbs (sleb xoff))) := own_sl hoB; have R3 := Lib.hid (R2.out.call hfB); clear hoB hfB)
                   | (have _t := R1; refine (OwnR.app_step R1.out SA.out (by rfl) _ _ (by rfl) (by rfl) (by rfl) (by omega) ?_); intro a2 c2 w2 ho2 hf2; have R2 := Lib.hid ho2; clear ho2 hf2)
                   | (go_at_call 10; go_must (refine (Unsigned_any xcode (by omega) _).mono ?_); rintro e wA ⟨aA, cA, rfl, hoA, hfA⟩; have SA : Hid (Sl wA (.slice aA (uleb xcode).length cA) (vbs (uleb xcode))) := own_sl hoA; have R1 : Hid (OwnR w1 wA a7 L7.length c7 L7) := R7.out.call ((Fr.refl [] _).drew.then hfA); clear hoA hfA))
          all_goals
            go_wp2_with fail
            go_meet
            exact ⟨_, _, _, rfl, HLT.out ▸ R6.out⟩
        case rest =>
          clear HK k1 k2 k3 R7
          obtain ⟨aT, nT, cT, rfl, hoT⟩ := hcut
          have RT := Lib.hid hoT
          have hnT2 : nT ≤ 36 := by rw [hoT.len]; exact hnT
          have k4 := blk_cell (hoT.fr.get B1.out (by simp)) 4
          clear hoT
          have HF1 : Hid (Fr [] W wc) := ((Hw.out.then Hfr.out).then F1.out).then RT.out.fr
          have HCL : Hid (RSl 4 (RCall W) W (.slice ca xcalls.length cc) xcalls) := Hs.out.2.2.1
          have HFL : Hid (RSl 3 (RFrame W) W (.slice fa xframes.length fc) xframes) := Hs.out.2.2.2.1
          have HCR : Hid (∀ x ∈ xcalls, ccB x = true) := Hs.out.2.2.2.2.1
          have HFRR : Hid (∀ f ∈ xframes, frB f = true) := Hs.out.2.2.2.2.2
          have hcl : (callsL xcalls).length ≤ 2820 := by
            have := callsL_len xcalls (fun x hx => callL_len x (cc_right (HCR.out x hx)) (rcall_all HCL.out x hx).1 (rcall_all HCL.out x hx).2)
            omega
          have hob : out.length ≤ 400000 := by omega
          have HRO : Hid (OwnR w wc a out.length c out) := ⟨rfl, own_fr HO1.out RT.out.fr (by simp), (Hfr.out.then F1.out).then RT.out.fr⟩
          go_wp2_with (go_at_call 50; go_must (refine (calls_any W _ xcalls _ HCL.out HF1.out (by omega) (fun x hx => cc_right (HCR.out x hx))).mono ?_))
          rintro e w8 ⟨a8, c8, rfl, ho8, hf8⟩
          have S8 := Lib.hid (own_sl ho8)
          have R8 := Lib.hid (RT.out.call hf8)
          have HF8 := Lib.hid hf8
          clear ho8 hf8
          go_wp2_with (at_builtin; go_must (refine OwnR.app_list R8.out S8.out rfl _ _ rfl rfl rfl (by omega) ?_))
          intro a9 c9 w9 ho9 hf9
          have R9 := Lib.hid ho9
          clear ho9 hf9
          go_wp2_with (go_at_call 49; go_must (refine (padded_own R9.out (by omega)).mono ?_))
          rintro e w10 ⟨a10, c10, rfl, ho10⟩
          have hcie : LT ++ callsL xcalls = cieL ⟨xv, xcode, xoff, r, xcalls, xframes⟩ := by
            rw [← HLT.out, ← HL7.out, ← HB0.out, ← Hy.out]; rfl
          rw [hcie] at ho10 ⊢
          have hcl2 := cieL_len Hs.out.2.1 (rcall_all HCL.out)
          have hcl3 := padL_len (cieL ⟨xv, xcode, xoff, r, xcalls, xframes⟩)
          have R10 := Lib.hid ho10
          have S10 := Lib.hid ho10.sl
          have RO10 : Hid (OwnR w w10 a out.length c out) := ⟨rfl, own_fr HO1.out ho10.fr (by simp), (Hfr.out.then F1.out).then ho10.fr⟩
          obtain ⟨LC, hLC⟩ : ∃ LC, padL (cieL ⟨xv, xcode, xoff, r, xcalls, xframes⟩) = LC := ⟨_, rfl⟩
          rw [hLC] at R10 S10 hcl3
          have HLC := Lib.hid hLC
          have hLCl : LC.length ≤ 2912 := by omega
          simp only [hLC]
          clear ho10 hcie hLC
          go_wp2_with (at_builtin; go_must (refine OwnR.app_list RO10.out S10.out rfl _ _ rfl rfl rfl (by omega) ?_))
          intro a11 c11 w11 ho11 hf11
          have R11 := Lib.hid ho11
          have hb11 : w11.heap[wo.heap.size]? = _ := hf11.get (R10.out.fr.get B1.out (by simp)) (fun h => by
            have h1 := (RO10.out.lt (by simpa using h)).2
            have h2 := Hfr.out
            have h3 := (OwnR.lt (w0 := w) (w := wo) ⟨rfl, Hown.out, Hfr.out⟩ (by simpa using h)).2
            omega)
          have k5 := blk_cell hb11 5
          clear ho11 hf11 hb11
          go_wp2_with fail
          clear RT HF1 HCL HCR hcl HRO S8 R8 HF8 R9 hcl2 S10 RO10 R10 k4 F1 HO1 B1
          go_loopw [3, 50] (fun v i wr => ∃ j : Nat, ∃ a n c, j ≤ xframes.length ∧ i = .int .i64 (j : Int) ∧ v = .slice a n c ∧ n ≤ out.length + 3000 + j * 5800 ∧
              OwnR w wr a n c (out ++ LC ++ framesL out.length (xframes.take j))) (fun _ i _ => xframes.length - (intOf i).toNat)
          case atStart => exact ⟨0, _, _, _, Nat.zero_le _, rfl, rfl, by omega, by simpa [framesL] using R11.out⟩
          case round =>
            obtain ⟨wi, rfl⟩ : ∃ wi : World, wi = wr := ⟨_, rfl⟩
            obtain ⟨j, ai, ni, ci, hj, rfl, rfl, hni, hoi⟩ := hrel
            have Hoi := Lib.hid hoi
            clear hoi R11 k5
            by_cases hjt : j < xframes.length
            case neg =>
              obtain rfl : j = xframes.length := by omega
              clear hjt
              go_wp2
              go_roundw
              case rel =>
                have e : secFrom 0 (l.take (k + 1)) = out ++ LC ++ framesL out.length (xframes.take xframes.length) := by
                  rw [List.take_length, Hs.out.1, entL, List.append_assoc, ← HLC.out]; rfl
                have e2 := Hoi.out.len
                rw [← e] at e2
                subst e2
                refine ⟨k + 1, secFrom 0 (l.take (k + 1)), ai, ci, by omega, rfl, by go_num, rfl, by omega, ?_, Hoi.out.fr⟩
                have := Hoi.out.own; rw [← e] at this; exact this
              case measure => simp [intOf]; omega
            case pos =>
              obtain ⟨gf, of, da, dc, rfl, d0, d1, d2, hd, hz1, hz2⟩ := frame_at HFL.out (Hw.out.then Hoi.out.fr) j hjt
              have hstep := framesL_take out.length xframes j hjt
              have hfrr := HFRR.out _ (List.getElem_mem hjt)
              generalize xframes[j] = x at *
              obtain ⟨xb, xs, xc⟩ := x
              simp only at d0 d1 d2
              obtain ⟨q21, q22, q23, q24, q25⟩ := fr_facts hfrr
              simp only at q21 q22 q23 q24 q25
              have Hs2 := Lib.hid (And.intro hstep (And.intro hfrr (And.intro hd q25)))
              clear hstep hfrr hd q25 q21
              go_upto_region 12 with (fail)
              have hB2 : (wi.alloc (.cells #[.int .u64 (xb : Int), .int .u64 (xs : Int), .slice da xc.length dc] 46)).heap[wi.heap.size]? = some (.cells #[.int .u64 (xb : Int), .int .u64 (xs : Int), .slice da xc.length dc] 46 (0, 0)) := blk_new _ _
              have hF2 : Fr [] wi (wi.alloc (.cells #[.int .u64 (xb : Int), .int .u64 (xs : Int), .slice da xc.length dc] 46)) := (Fr.refl _ _).alloc _
              generalize wi.alloc (.cells #[.int .u64 (xb : Int), .int .u64 (xs : Int), .slice da xc.length dc] 46) = w2 at *
              have k0 := blk_cell hB2 0
              have k1 := blk_cell hB2 1
              have B2 := Lib.hid hB2
              have F2 := Lib.hid hF2
              have hwo : IntKind.u64.wrap (out.length : Int) = (out.length : Int) := by simp [IntKind.wrap, IntKind.signed, IntKind.bits]; omega
              have hl1 := leL_length 4 out.length
              have hl2 := leL_length 8 xb
              have hl3 := leL_length 8 xs
              obtain ⟨L1, hL1⟩ : ∃ L, leL out.length 4 = L := ⟨_, rfl⟩
              obtain ⟨L2, hL2⟩ : ∃ L, leL xb 8 = L := ⟨_, rfl⟩
              obtain ⟨L3, hL3⟩ : ∃ L, leL xs 8 = L := ⟨_, rfl⟩
              rw [hL1] at hl1
              rw [hL2] at hl2
              rw [hL3] at hl3
              have HL1 := Lib.hid hL1
              have HL2 := Lib.hid hL2
              have HL3 := Lib.hid hL3
              have hm1 : L1.length ≤ 4 := by omega
              have hm2 : L2.length ≤ 8 := by omega
              have hm3 : L3.length ≤ 8 := by omega
              have HOB : Hid (out.length < 18446744073709551616) := by show _ < _; omega
              have HZ1 := Lib.hid hz1
              have HZ2 := Lib.hid hz2
              have HK : Hid (∀ w', Fr [] w2 w' → w'.cell? ⟨wi.heap.size, 0, none⟩ = some (.int .u64 (xb : Int)) ∧ w'.cell? ⟨wi.heap.size, 1, none⟩ = some (.int .u64 (xs : Int))) :=
                fun w' f => ⟨blk_cell (f.get B2.out (by simp)) 0, blk_cell (f.get B2.out (by simp)) 1⟩
              clear hB2 hF2 hL1 hL2 hL3 hl1 hl2 hl3 d0 d1 d2 hz1 hz2
              go_cut [10] from 54 to 64 (fun s10 wx => ∃ a n c, s10 = .slice a n c ∧ OwnR w2 wx a n c (L1 ++ L2 ++ L3))
              case first =>
                as_aux_lemma =>
                go_region_held3 (fun w' => w'.cell? ⟨wi.heap.size, 0, none⟩ = some (.int .u64 (xb : Int)) ∧ w'.cell? ⟨wi.heap.size, 1, none⟩ = some (.int .u64 (xs : Int)))
                  (first | exact HK.out _ R5.out.fr | exact HK.out _ R4.out.fr | exact HK.out _ R3.out.fr | exact HK.out _ R2.out.fr | exact HK.out _ R1.out.fr | exact HK.out _ ((Fr.refl _ _).drew))
                  (first | (refine (OwnR.app_step R4.out SC.out (by rfl) _ _ (by rfl) (by rfl) (by rfl) (by omega) ?_); intro a6 c6 w6 ho6 hf6; have R5 := Lib.hid ho6; clear ho6 hf6)
                         | (have _t := R3; go_at_call 48; go_must (refine (Little_ints xs 8 _ _ (by rfl) (by rfl) HZ2.out (by decide) _).mono ?_); rw [HL3.out]; rintro e wC ⟨aC, cC, rfl, hoC, hfC⟩; have SC : Hid (Sl wC (.slice aC L3.length cC) (vbs L3)) := own_sl hoC; have R4 := Lib.hid (R3.out.call hfC); clear hoC hfC)
                         | (refine (OwnR.app_step R2.out SB.out (by rfl) _ _ (by rfl) (by rfl) (by rfl) (by omega) ?_); intro a4 c4 w4 ho4 hf4; have R3 := Lib.hid ho4; clear ho4 hf4)
                         | (have _t := R1; go_at_call 48; go_must (refine (Little_ints xb 8 _ _ (by rfl) (by rfl) HZ1.out (by decide) _).mono ?_); rw [HL2.out]; rintro e wB ⟨aB, cB, rfl, hoB, hfB⟩; have SB : Hid (Sl wB (.slice aB L2.length cB) (vbs L2)) := own_sl hoB; have R2 := Lib.hid (R1.out.call hfB); clear hoB hfB)
                         | (go_at_call 48; go_must (refine (Little_ints out.length 4 _ _ (by rfl) (by rfl) HOB.out (by decide) _).mono ?_); rw [HL1.out]; rintro e wA ⟨aA, cA, rfl, hoA, hfA⟩; have R1 := Lib.hid (OwnR.made (Fr.drew (Fr.refl [] w2)) hoA hfA); clear hoA hfA))
                all_goals
                  go_wp2_with fail
                  go_meet
                  exact ⟨_, _, _, rfl, R5.out⟩
              case rest =>
                clear HK k0 k1
                obtain ⟨aT2, nT2, cT2, rfl, hoT2⟩ := hcut
                have RT2 := Lib.hid hoT2
                have hnT3 : nT2 ≤ 20 := by rw [hoT2.len]; simp; omega
                have k2 := blk_cell (hoT2.fr.get B2.out (by simp)) 2
                have HF2 : Hid (Fr [] W wc) := ((Hw.out.then Hoi.out.fr).then F2.out).then hoT2.fr
                clear hoT2
                have HXL : Hid (RSl 4 (RCall W) W (.slice da xc.length dc) xc) := Hs2.out.2.2.1
                have HXR : Hid (∀ x ∈ xc, cfB x = true) := Hs2.out.2.2.2
                have hxl : (callsL xc).length ≤ 5640 := by
                  have := callsL_len xc (fun x hx => callL_len x (cf_right (HXR.out x hx)) (rcall_all HXL.out x hx).1 (rcall_all HXL.out x hx).2)
                  omega
                have Rout : Hid (OwnR w w2 ai ni ci (out ++ LC ++ framesL out.length (xframes.take j))) := Hoi.out.call F2.out
                have Routc : Hid (OwnR w wc ai ni ci (out ++ LC ++ framesL out.length (xframes.take j))) := Rout.out.call RT2.out.fr
                go_wp2_with (go_at_call 50; go_must (refine (calls_any W _ xc _ HXL.out HF2.out (by omega) (fun x hx => cf_right (HXR.out x hx))).mono ?_))
                rintro e w8 ⟨a8, c8, rfl, ho8, hf8⟩
                have S8 := Lib.hid (own_sl ho8)
                have R8 := Lib.hid (RT2.out.call hf8)
                clear ho8 hf8
                go_wp2_with (at_builtin; go_must (refine OwnR.app_list R8.out S8.out rfl _ _ rfl rfl rfl (by omega) ?_))
                intro a9 c9 w9 ho9 hf9
                have R9 := Lib.hid ho9
                clear ho9 hf9
                go_wp2_with (go_at_call 49; go_must (refine (padded_own R9.out (by omega)).mono ?_))
                rintro e w10 ⟨a10, c10, rfl, ho10⟩
                have hfde : L1 ++ (L2 ++ (L3 ++ callsL xc)) = fdeL out.length ⟨xb, xs, xc⟩ := by
                  rw [← HL1.out, ← HL2.out, ← HL3.out]; simp [fdeL]
                rw [hfde] at ho10 ⊢
                have hxl2 := fdeL_len (n := out.length) Hs2.out.2.1 (rcall_all HXL.out)
                have hxl3 := padL_len (fdeL out.length ⟨xb, xs, xc⟩)
                have S10 := Lib.hid ho10.sl
                have RO10 : Hid (OwnR w w10 ai ni ci (out ++ LC ++ framesL out.length (xframes.take j))) := Rout.out.call ho10.fr
                obtain ⟨LF, hLF⟩ : ∃ LF, padL (fdeL out.length ⟨xb, xs, xc⟩) = LF := ⟨_, rfl⟩
                rw [hLF] at S10 hxl3
                have HLF := Lib.hid hLF
                have hLFl : LF.length ≤ 5712 := by omega
                simp only [hLF]
                clear ho10 hfde hLF hxl3
                go_wp2_with (at_builtin; go_must (refine OwnR.app_list RO10.out S10.out rfl _ _ rfl rfl rfl (by omega) ?_))
                intro a11 c11 w11 ho11 hf11
                have R11 := Lib.hid ho11
                clear ho11 hf11
                go_wp2_with fail
                go_roundw
                case rel =>
                  refine ⟨j + 1, a11, _, c11, by omega, by go_num, rfl, by omega, ?_⟩
                  rw [Hs2.out.1, HLF.out]; simpa [List.append_assoc] using R11.out
                case measure => simp [intOf]; omega
end Go.Proofs.Ytahohmdfllgedaa
