/- The reference's test of whole entries (spec.Right). -/
import Derived.Test.YtahohmdfllgedaaGreatFa0
import Derived.Deep.CutRange
import Derived.Deep.LoopGhost
set_option linter.unusedVariables false
set_option linter.unusedSimpArgs false
namespace Go.Proofs.YtahohmdfllgedaaGreat
open Go.RowKit

def crB (x : LCall) : Bool := callRightB x.op x.a x.b x.data.length
/-- An instruction that a common entry may hold. -/
def ccB (x : LCall) : Bool := crB x && decide (¬ x.op = 20) && decide (¬ x.op = 15) && decide (¬ x.op = 16) && decide (¬ x.op = 22) && !movesB x.op && decide (¬ x.op = 192) && decide (¬ x.op = 6)
/-- An instruction that a frame may hold. -/
def cfB (x : LCall) : Bool := crB x && decide (¬ x.op = 20)
def frB (f : LFrame) : Bool := decide (¬ f.size = 0 ∧ f.size ≤ 1048576 ∧ f.start ≤ 1099511627776 ∧ f.calls.length ≤ 40) && f.calls.all cfB
def hdB (c : LCommon) : Bool := decide ((c.version = 1 ∨ c.version = 3) ∧ 1 ≤ c.code ∧ c.code ≤ 64 ∧ ¬ c.offset = 0 ∧ -64 ≤ c.offset ∧ c.offset ≤ 64 ∧ 0 ≤ c.ret ∧ c.ret ≤ 127 ∧ c.frames.length ≤ 8 ∧ c.calls.length ≤ 20)
def rcB (c : LCommon) : Bool := hdB c && c.calls.all ccB && c.frames.all frB
def rightL (l : List LCommon) : Bool := decide (l.length ≤ 8) && l.all rcB

set_option maxRecDepth 100000 in
set_option maxHeartbeats 8000000 in
theorem Right_any (W : World) (v : Value) (l : List LCommon) (w : World) (h : RList W v l) (hw : Fr [] W w) :
    Calls Tryz.prog 6 #[v] w fun e w' => e = .returned (.bool (rightL l)) ∧ Fr [] w w' := by
  obtain ⟨a, c, rfl, h1, h2⟩ := RSl.shape h
  have H := Lib.hid h
  have Hw := Lib.hid hw
  clear h hw
  by_cases hn : l.length ≤ 8
  case neg =>
    have t : (8 : Int) < (l.length : Int) := by omega
    have e : rightL l = false := by simp [rightL, hn]
    rw [e]
    go_enter Tryz.func6, Tryz.ntmps6
    go_wp2_with fail
    go_ret
    exact ⟨rfl, Fr.refl _ _⟩
  case pos =>
    have t : ¬ (8 : Int) < (l.length : Int) := by omega
    have e : rightL l = l.all rcB := by simp [rightL, hn]
    rw [e]
    go_enter Tryz.func6, Tryz.ntmps6
    go_wp2_with fail
    go_loopw [16] (fun i wr => ∃ k : Nat, k ≤ l.length ∧ i = .int .i64 (k : Int) ∧ (l.take k).all rcB = true ∧ Fr [] w wr) (fun i _ => l.length - (intOf i).toNat)
    case atStart => exact ⟨0, Nat.zero_le _, rfl, rfl, Fr.refl _ _⟩
    case round =>
      obtain ⟨wo, rfl⟩ : ∃ wo : World, wo = wr := ⟨_, rfl⟩
      obtain ⟨k, hk, rfl, hall, hfr⟩ := hrel
      have Hall := Lib.hid hall
      have Hfr := Lib.hid hfr
      clear hall hfr
      by_cases hlt : k < l.length
      case neg =>
        obtain rfl : k = l.length := by omega
        clear hlt
        go_wp2
        go_ret
        exact ⟨by rw [← Hall.out, List.take_length]; rfl, Hfr.out⟩
      case pos =>
        obtain ⟨g, o, ca, cc, fa, fc, rfl, c0, c1, c2, c3, c4, c5, hd, he, hb1, hb2, hb3, hb4⟩ := common_at H.out (Hw.out.then Hfr.out) k hlt
        have hstep := all_take_succ rcB l k hlt
        have hstop := all_false rcB l k hlt
        have Hs := Lib.hid (And.intro hstep (And.intro hstop (And.intro hd he)))
        have Hb := Lib.hid (And.intro hb1 (And.intro hb2 (And.intro hb3 hb4)))
        clear hstep hstop hd he hb1 hb2 hb3 hb4
        generalize l[k] = x at *
        go_upto_region 6 with (fail)
        have hB1 : (wo.alloc (.cells #[.int .i64 x.version, .int .u64 (x.code : Int), .int .i64 x.offset, .int .i64 x.ret, .slice ca x.calls.length cc, .slice fa x.frames.length fc] 36)).heap[wo.heap.size]? = some (.cells #[.int .i64 x.version, .int .u64 (x.code : Int), .int .i64 x.offset, .int .i64 x.ret, .slice ca x.calls.length cc, .slice fa x.frames.length fc] 36 (0, 0)) := blk_new _ _
        have hF1 : Fr [] wo (wo.alloc (.cells #[.int .i64 x.version, .int .u64 (x.code : Int), .int .i64 x.offset, .int .i64 x.ret, .slice ca x.calls.length cc, .slice fa x.frames.length fc] 36)) := (Fr.refl _ _).alloc _
        generalize wo.alloc (.cells #[.int .i64 x.version, .int .u64 (x.code : Int), .int .i64 x.offset, .int .i64 x.ret, .slice ca x.calls.length cc, .slice fa x.frames.length fc] 36) = w1 at *
        have B1 := Lib.hid hB1
        have F1 := Lib.hid hF1
        have k0 := blk_cell hB1 0
        have k1 := blk_cell hB1 1
        have k2 := blk_cell hB1 2
        have k3 := blk_cell hB1 3
        have k4 := blk_cell hB1 4
        have k5 := blk_cell hB1 5
        clear hB1 hF1 c0 c1 c2 c3 c4 c5
        go_cut [74] from 17 to 163 (fun s wx => s = .bool (!hdB x) ∧ w1 = wx)
        case first =>
          cases hh : hdB x
          case false =>
            as_aux_lemma =>
              have Hh : Hid (¬ ((x.version = 1 ∨ x.version = 3) ∧ 1 ≤ x.code ∧ x.code ≤ 64 ∧ ¬ x.offset = 0 ∧ -64 ≤ x.offset ∧ x.offset ≤ 64 ∧ 0 ≤ x.ret ∧ x.ret ≤ 127 ∧ x.frames.length ≤ 8 ∧ x.calls.length ≤ 20)) := of_decide_eq_false hh
              have Hh' := Lib.hid hh
              clear hh
              go_wp2_with fail
              all_goals
                go_meet
                first
                  | exact ⟨by rw [Hh'.out]; rfl, rfl⟩
                  | (exfalso; apply Hh.out; omega)
                  | (refine ⟨congrArg Value.bool ?_, rfl⟩; rw [Hh'.out]; have hq := Hh.out; simp; omega)
          case true =>
            as_aux_lemma =>
              have Hh := Lib.hid hh
              obtain ⟨hv, h1', h2', h3', h4', h5', h6', h7', h8', h9'⟩ := of_decide_eq_true hh
              have q3 : (x.offset == 0) = false := by rw [beq_eq_false_iff_ne]; exact h3'
              have q1 : ¬ (x.code : Int) < 1 := by omega
              have q2 : ¬ (64 : Int) < (x.code : Int) := by omega
              have q4 : ¬ x.offset < -64 := by omega
              have q5 : ¬ 64 < x.offset := by omega
              have q6 : ¬ x.ret < 0 := by omega
              have q7 : ¬ 127 < x.ret := by omega
              have q8 : ¬ (8 : Int) < (x.frames.length : Int) := by omega
              have q9 : ¬ (20 : Int) < (x.calls.length : Int) := by omega
              clear hh h3'
              rcases hv with hv | hv
              · have v1 : (x.version != 1) = false := by rw [bne_eq_false_iff_eq]; exact hv
                clear hv
                go_wp2_with fail
                all_goals
                  go_meet
                  exact ⟨by rw [Hh.out]; rfl, rfl⟩
              · have v1 : (x.version != 1) = true := by rw [bne_iff_ne]; omega
                have v3 : (x.version != 3) = false := by rw [bne_eq_false_iff_eq]; exact hv
                clear hv
                go_wp2_with fail
                all_goals
                  go_meet
                  exact ⟨by rw [Hh.out]; rfl, rfl⟩
        case rest =>
          obtain ⟨rfl, rfl⟩ := hcut
          cases hh : hdB x
          · have Hx : Hid (rcB x = false) := by show _ = _; simp [rcB, hh]
            clear hh
            go_wp2_with fail
            go_ret
            exact ⟨by rw [Hs.out.2.1 Hx.out]; rfl, Hfr.out.then F1.out⟩
          have Hx0 : Hid (rcB x = (x.calls.all ccB && x.frames.all frB)) := by show _ = _; simp [rcB, hh]
          have q8 : x.frames.length ≤ 8 := (of_decide_eq_true hh).2.2.2.2.2.2.2.2.1
          have q9 : x.calls.length ≤ 20 := (of_decide_eq_true hh).2.2.2.2.2.2.2.2.2
          clear hh
          go_wp2_with fail
          go_loopw [78] (fun i w2 => ∃ j : Nat, j ≤ x.calls.length ∧ i = .int .i64 (j : Int) ∧ (x.calls.take j).all ccB = true ∧ Fr [] w1 w2)
            (fun i _ => x.calls.length - (intOf i).toNat)
          case atStart => exact ⟨0, Nat.zero_le _, rfl, rfl, Fr.refl _ _⟩
          case round =>
            obtain ⟨w2, rfl⟩ : ∃ w2 : World, w2 = wr := ⟨_, rfl⟩
            obtain ⟨j, hj, rfl, hall2, hfr2⟩ := hrel
            have Hall2 := Lib.hid hall2
            have Hfr2 := Lib.hid hfr2
            have HF2 : Hid (Fr [] w w2) := (Hfr.out.then F1.out).then hfr2
            clear hall2 hfr2
            by_cases hlt2 : j < x.calls.length
            case neg =>
              as_aux_lemma =>
                obtain rfl : j = x.calls.length := by omega
                clear hlt2
                have k5 : w2.cell? ⟨wo.heap.size, 5, none⟩ = some (.slice fa x.frames.length fc) := by
                  rw [blk_cell (Hfr2.out.get B1.out (by simp))]; rfl
                have hcalls : Hid (x.calls.all ccB = true) := by have := Hall2.out; rwa [List.take_length] at this
                clear Hall2
                go_wp2_with fail
                go_loopw [123] (fun i w3 => ∃ j : Nat, j ≤ x.frames.length ∧ i = .int .i64 (j : Int) ∧ (x.frames.take j).all frB = true ∧ Fr [] w2 w3) (fun i _ => x.frames.length - (intOf i).toNat)
                case atStart => exact ⟨0, Nat.zero_le _, rfl, rfl, Fr.refl _ _⟩
                case round =>
                  obtain ⟨w3, rfl⟩ : ∃ w3 : World, w3 = wr := ⟨_, rfl⟩
                  obtain ⟨j, hj, rfl, hall3, hfr3⟩ := hrel
                  have Hall3 := Lib.hid hall3
                  have Hfr3 := Lib.hid hfr3
                  have HF3 : Hid (Fr [] w w3) := HF2.out.then hfr3
                  clear hall3 hfr3
                  by_cases hlt3 : j < x.frames.length
                  case neg =>
                    obtain rfl : j = x.frames.length := by omega
                    clear hlt3
                    have Hx : Hid (rcB x = true) := by
                      show _ = _
                      have := Hall3.out
                      rw [List.take_length] at this
                      rw [Hx0.out, hcalls.out, this]; rfl
                    go_wp2_with fail
                    go_roundw
                    case rel => exact ⟨k + 1, by omega, by go_num, by rw [Hs.out.1, Hall.out, Hx.out]; rfl, HF3.out⟩
                    case measure => simp [intOf]; omega
                  case pos =>
                    obtain ⟨g3, o3, da, dc, rfl, d0, d1, d2, hd3, hb1, hb2⟩ := frame_at Hs.out.2.2.2 (Hw.out.then HF3.out) j hlt3
                    have hstep3 := all_take_succ frB x.frames j hlt3
                    have hstop3 := all_false frB x.frames j hlt3
                    have Hs3 := Lib.hid (And.intro hstep3 (And.intro hstop3 (And.intro hd3 (And.intro hb1 hb2))))
                    clear hstep3 hstop3 hd3 hb1 hb2
                    generalize x.frames[j] = f at *
                    have hbad : frB f = false → rcB x = false := fun h => by rw [Hx0.out, Hs3.out.2.1 h, Bool.and_false]
                    have Hbad := Lib.hid hbad
                    clear hbad
                    by_cases f1 : f.size = 0
                    · have t1 : ((f.size : Int) == 0) = true := by rw [beq_iff_eq]; omega
                      have Hx : Hid (rcB x = false) := Hbad.out (by simp [frB, f1])
                      clear f1
                      go_wp2_with fail
                      go_ret
                      exact ⟨by rw [Hs.out.2.1 Hx.out]; rfl, HF3.out.alloc _⟩
                    have t1 : ((f.size : Int) == 0) = false := by rw [beq_eq_false_iff_ne]; omega
                    by_cases f2 : (1048576 : Int) < (f.size : Int)
                    · have Hx : Hid (rcB x = false) := Hbad.out (by simp [frB]; omega)
                      clear f1
                      go_wp2_with fail
                      go_ret
                      exact ⟨by rw [Hs.out.2.1 Hx.out]; rfl, HF3.out.alloc _⟩
                    by_cases f3 : (1099511627776 : Int) < (f.start : Int)
                    · have Hx : Hid (rcB x = false) := Hbad.out (by simp [frB]; omega)
                      clear f1
                      go_wp2_with fail
                      go_ret
                      exact ⟨by rw [Hs.out.2.1 Hx.out]; rfl, HF3.out.alloc _⟩
                    by_cases f4 : (40 : Int) < (f.calls.length : Int)
                    · have Hx : Hid (rcB x = false) := Hbad.out (by simp [frB]; omega)
                      clear f1
                      go_wp2_with fail
                      go_ret
                      exact ⟨by rw [Hs.out.2.1 Hx.out]; rfl, HF3.out.alloc _⟩
                    have Hf0 : Hid (frB f = f.calls.all cfB) := by show _ = _; simp [frB]; omega
                    clear f1
                    go_wp2_with fail
                    go_loopw [149] (fun i w4 => ∃ n : Nat, n ≤ f.calls.length ∧ i = .int .i64 (n : Int) ∧ (f.calls.take n).all cfB = true ∧ Fr [] w3 w4) (fun i _ => f.calls.length - (intOf i).toNat)
                    case atStart => exact ⟨0, Nat.zero_le _, rfl, rfl, (Fr.refl _ _).alloc _⟩
                    case round =>
                      obtain ⟨w4, rfl⟩ : ∃ w4 : World, w4 = wr := ⟨_, rfl⟩
                      obtain ⟨n, hn4, rfl, hall4, hfr4⟩ := hrel
                      have Hall4 := Lib.hid hall4
                      have Hfr4 := Lib.hid hfr4
                      have HF4 : Hid (Fr [] w w4) := HF3.out.then hfr4
                      clear hall4 hfr4
                      by_cases hlt4 : n < f.calls.length
                      case neg =>
                        as_aux_lemma =>
                          obtain rfl : n = f.calls.length := by omega
                          clear hlt4
                          have Hf1 : Hid (frB f = true) := by
                            show _ = _
                            have := Hall4.out
                            rw [List.take_length] at this
                            rw [Hf0.out, this]
                          go_wp2_with fail
                          go_roundw
                          case rel =>
                              have hrel' := (⟨j + 1, by omega, by go_num, by rw [Hs3.out.1, Hall3.out, Hf1.out]; rfl, Hfr3.out.then Hfr4.out⟩ : ∃ j' : Nat, j' ≤ x.frames.length ∧ Value.int .i64 ((j : Int) + 1) = .int .i64 (j' : Int) ∧ (x.frames.take j').all frB = true ∧ Fr [] w2 w4)
                              first
                                | exact hrel'
                                | ((repeat apply Exists.intro); exact ⟨hrel', rfl⟩)
                          case measure => simp [intOf]; omega
                      case pos =>
                        as_aux_lemma =>
                          obtain ⟨g4, o4, da4, dc4, rfl, e0, e1, e2, e3, -⟩ := call_at Hs3.out.2.2.1 (Hw.out.then HF4.out) n hlt4
                          have hstep4 := all_take_succ cfB f.calls n hlt4
                          have hstop4 := all_false cfB f.calls n hlt4
                          have Hs4 := Lib.hid (And.intro hstep4 hstop4)
                          clear hstep4 hstop4
                          generalize f.calls[n] = y at *
                          cases hcr : crB y
                          case false =>
                            have Hx : Hid (rcB x = false) := Hbad.out (by rw [Hf0.out, Hs4.out.2 (by simp [cfB, hcr])])
                            have Hcr : Hid (callRightB y.op y.a y.b y.data.length = false) := hcr
                            clear hcr
                            go_wp2_with (go_at_call 14; go_must (refine (callRight_any _ _ _ _ _ _ _).mono ?_; rw [Hcr.out]; rintro e w5 ⟨rfl, hf5⟩; have Hf5 := Lib.hid hf5; clear hf5))
                            go_ret
                            exact ⟨by rw [Hs.out.2.1 Hx.out]; rfl, (HF4.out.alloc _).then Hf5.out⟩
                          case true =>
                            by_cases h20 : y.op = 20
                            · have Hx : Hid (rcB x = false) := Hbad.out (by rw [Hf0.out, Hs4.out.2 (by simp [cfB, h20])])
                              have t20 : (y.op == 20) = true := by rw [beq_iff_eq]; exact h20
                              have Hcr : Hid (callRightB y.op y.a y.b y.data.length = true) := hcr
                              clear hcr h20
                              go_wp2_with (go_at_call 14; go_must (refine (callRight_any _ _ _ _ _ _ _).mono ?_; rw [Hcr.out]; rintro e w5 ⟨rfl, hf5⟩; have Hf5 := Lib.hid hf5; have B5 := hf5.get (blk_new _ _) (by simp); have r0 := blk_cell B5 0; clear hf5 B5))
                              go_ret
                              exact ⟨by rw [Hs.out.2.1 Hx.out]; rfl, (HF4.out.alloc _).then Hf5.out⟩
                            · have Hy : Hid (cfB y = true) := by show _ = _; simp [cfB, hcr, h20]
                              have t20 : (y.op == 20) = false := by rw [beq_eq_false_iff_ne]; exact h20
                              have Hcr : Hid (callRightB y.op y.a y.b y.data.length = true) := hcr
                              clear hcr h20
                              go_wp2_with (go_at_call 14; go_must (refine (callRight_any _ _ _ _ _ _ _).mono ?_; rw [Hcr.out]; rintro e w5 ⟨rfl, hf5⟩; have Hf5 := Lib.hid hf5; have B5 := hf5.get (blk_new _ _) (by simp); have r0 := blk_cell B5 0; clear hf5 B5))
                              go_roundw
                              case rel => exact ⟨n + 1, by omega, by go_num, by rw [Hs4.out.1, Hall4.out, Hy.out]; rfl, (Hfr4.out.alloc _).then Hf5.out⟩
                              case measure => simp [intOf]; omega
            case pos =>
              as_aux_lemma =>
                obtain ⟨g2, o2, da, dc, rfl, d0, d1, d2, d3, -⟩ := call_at Hs.out.2.2.1 (Hw.out.then HF2.out) j hlt2
                have hstep2 := all_take_succ ccB x.calls j hlt2
                have hstop2 := all_false ccB x.calls j hlt2
                have Hs2 := Lib.hid (And.intro hstep2 hstop2)
                clear hstep2 hstop2
                generalize x.calls[j] = y at *
                cases hy : ccB y
                case false =>
                  have Hx : Hid (rcB x = false) := by show _ = _; rw [Hx0.out, Hs2.out.2 hy]; rfl
                  have Hy := Lib.hid hy
                  clear hy
                  cases hcr : callRightB y.op y.a y.b y.data.length
                  case false =>
                    have Hcr := Lib.hid hcr
                    clear hcr
                    go_wp2_with (go_at_call 14; go_must (refine (callRight_any _ _ _ _ _ _ _).mono ?_; rw [Hcr.out]; rintro e w3 ⟨rfl, hf3⟩; have Hf3 := Lib.hid hf3; clear hf3))
                    go_ret
                    exact ⟨by rw [Hs.out.2.1 Hx.out]; rfl, (HF2.out.alloc _).then Hf3.out⟩
                  case true =>
                    cases hmv : movesB y.op
                    case true =>
                      have Hcr := Lib.hid hcr
                      have Hmv := Lib.hid hmv
                      clear hcr hmv
                      go_wp2_with (first | (go_at_call 14; go_must (refine (callRight_any _ _ _ _ _ _ _).mono ?_; rw [Hcr.out]; rintro e w3 ⟨rfl, hf3⟩; have Hf3 := Lib.hid hf3; have B3 := hf3.get (blk_new _ _) (by simp); have e0 := blk_cell B3 0; have e1 := blk_cell B3 1; have e2 := blk_cell B3 2; have e3 := blk_cell B3 3; have HB3 := Lib.hid B3; clear hf3 B3)) | (go_at_call 15; go_must (refine (moves_any _ _ _ _ _ _ _).mono ?_; rw [Hmv.out]; rintro e w4 ⟨rfl, hf4⟩; have Hf4 := Lib.hid hf4; have B4 := (hf4.get HB3.out (by simp)); have r0 := blk_cell B4 0; clear hf4 B4)))
                      all_goals first
                        | (go_ret; exact ⟨by rw [Hs.out.2.1 Hx.out]; rfl, (HF2.out.alloc _).then Hf3.out⟩)
                        | (go_ret; exact ⟨by rw [Hs.out.2.1 Hx.out]; rfl, ((HF2.out.alloc _).then Hf3.out).then Hf4.out⟩)
                    case false =>
                      have hd : y.op = 20 ∨ y.op = 15 ∨ y.op = 16 ∨ y.op = 22 ∨ y.op = 192 ∨ y.op = 6 := by
                        have := Hy.out
                        simp [ccB, crB, hcr, hmv] at this
                        omega
                      have Hcr := Lib.hid hcr
                      have Hmv := Lib.hid hmv
                      clear hcr hmv
                      by_cases h6 : y.op = 6
                      · have t6 : (y.op == 6) = true := by rw [beq_iff_eq]; exact h6
                        clear h6 hd
                        go_wp2_with (first | (go_at_call 14; go_must (refine (callRight_any _ _ _ _ _ _ _).mono ?_; rw [Hcr.out]; rintro e w3 ⟨rfl, hf3⟩; have Hf3 := Lib.hid hf3; have B3 := hf3.get (blk_new _ _) (by simp); have e0 := blk_cell B3 0; have e1 := blk_cell B3 1; have e2 := blk_cell B3 2; have e3 := blk_cell B3 3; have HB3 := Lib.hid B3; clear hf3 B3)) | (go_at_call 15; go_must (refine (moves_any _ _ _ _ _ _ _).mono ?_; rw [Hmv.out]; rintro e w4 ⟨rfl, hf4⟩; have Hf4 := Lib.hid hf4; have B4 := (hf4.get HB3.out (by simp)); have r0 := blk_cell B4 0; clear hf4 B4)))
                        all_goals first
                        | (go_ret; exact ⟨by rw [Hs.out.2.1 Hx.out]; rfl, (HF2.out.alloc _).then Hf3.out⟩)
                        | (go_ret; exact ⟨by rw [Hs.out.2.1 Hx.out]; rfl, ((HF2.out.alloc _).then Hf3.out).then Hf4.out⟩)
                      · have t6 : (y.op == 6) = false := by rw [beq_eq_false_iff_ne]; exact h6
                        have hd' : y.op = 20 ∨ y.op = 15 ∨ y.op = 16 ∨ y.op = 22 ∨ y.op = 192 := by omega
                        clear h6 hd
                        go_wp2_with (first | (go_at_call 14; go_must (refine (callRight_any _ _ _ _ _ _ _).mono ?_; rw [Hcr.out]; rintro e w3 ⟨rfl, hf3⟩; have Hf3 := Lib.hid hf3; have B3 := hf3.get (blk_new _ _) (by simp); have e0 := blk_cell B3 0; have e1 := blk_cell B3 1; have e2 := blk_cell B3 2; have e3 := blk_cell B3 3; have HB3 := Lib.hid B3; clear hf3 B3)) | (go_at_call 15; go_must (refine (moves_any _ _ _ _ _ _ _).mono ?_; rw [Hmv.out]; rintro e w4 ⟨rfl, hf4⟩; have Hf4 := Lib.hid hf4; have B4 := (hf4.get HB3.out (by simp)); have r0 := blk_cell B4 0; clear hf4 B4)))
                        all_goals first
                        | (go_ret; exact ⟨by rw [Hs.out.2.1 Hx.out]; rfl, (HF2.out.alloc _).then Hf3.out⟩)
                        | (go_ret; exact ⟨by rw [Hs.out.2.1 Hx.out]; rfl, ((HF2.out.alloc _).then Hf3.out).then Hf4.out⟩)
                case true =>
                  have hyy := hy
                  simp only [ccB, crB, Bool.and_eq_true, decide_eq_true_eq, Bool.not_eq_true'] at hyy
                  obtain ⟨⟨⟨⟨⟨⟨⟨hcr, g20⟩, g15⟩, g16⟩, g22⟩, hmv⟩, g192⟩, g6⟩ := hyy
                  have t20 : (y.op == 20) = false := by rw [beq_eq_false_iff_ne]; exact g20
                  have t15 : (y.op == 15) = false := by rw [beq_eq_false_iff_ne]; exact g15
                  have t16 : (y.op == 16) = false := by rw [beq_eq_false_iff_ne]; exact g16
                  have t22 : (y.op == 22) = false := by rw [beq_eq_false_iff_ne]; exact g22
                  have t192 : (y.op == 192) = false := by rw [beq_eq_false_iff_ne]; exact g192
                  have t6 : (y.op == 6) = false := by rw [beq_eq_false_iff_ne]; exact g6
                  have Hcr := Lib.hid hcr
                  have Hmv := Lib.hid hmv
                  have Hy := Lib.hid hy
                  clear hcr g20 g15 g16 g22 hmv g192 g6 hy
                  go_wp2_with (first | (go_at_call 14; go_must (refine (callRight_any _ _ _ _ _ _ _).mono ?_; rw [Hcr.out]; rintro e w3 ⟨rfl, hf3⟩; have Hf3 := Lib.hid hf3; have B3 := hf3.get (blk_new _ _) (by simp); have e0 := blk_cell B3 0; have e1 := blk_cell B3 1; have e2 := blk_cell B3 2; have e3 := blk_cell B3 3; have HB3 := Lib.hid B3; clear hf3 B3)) | (go_at_call 15; go_must (refine (moves_any _ _ _ _ _ _ _).mono ?_; rw [Hmv.out]; rintro e w4 ⟨rfl, hf4⟩; have Hf4 := Lib.hid hf4; have B4 := (hf4.get HB3.out (by simp)); have r0 := blk_cell B4 0; clear hf4 B4)))
                  go_roundw
                  case rel =>
                    have hrel' := (⟨j + 1, by omega, by go_num, by rw [Hs2.out.1, Hall2.out, Hy.out]; rfl, ((Hfr2.out.alloc _).then Hf3.out).then Hf4.out⟩ : ∃ j' : Nat, j' ≤ x.calls.length ∧ Value.int .i64 ((j : Int) + 1) = .int .i64 (j' : Int) ∧ (x.calls.take j').all ccB = true ∧ Fr [] w1 _)
                    first
                      | exact hrel'
                      | ((repeat apply Exists.intro); exact ⟨hrel', rfl⟩)
                  case measure => simp [intOf]; omega
end Go.Proofs.YtahohmdfllgedaaGreat
