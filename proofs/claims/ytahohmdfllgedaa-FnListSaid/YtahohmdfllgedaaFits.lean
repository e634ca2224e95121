/- The size tests of the statements about call frame information (zzFits1 .. zzFits6): each returns a bool and writes nothing that was there. -/
import Derived.Test.YtahohmdfllgedaaRead
import Derived.Test.YtahohmdfllgedaaRows
namespace Go.Proofs.Ytahohmdfllgedaa
open Go.RowKit

def fits4 (c : LCall) : Bool := decide (c.data.length ≤ 2147483647)
def fits3 (l : List LCall) : Bool := decide (l.length ≤ 2147483647) && l.all fits4
def fits6 (f : LFrame) : Bool := fits3 f.calls
def fits5 (l : List LFrame) : Bool := decide (l.length ≤ 2147483647) && l.all fits6
def fits2 (c : LCommon) : Bool := fits3 c.calls && fits5 c.frames
def fits1 (l : List LCommon) : Bool := decide (l.length ≤ 2147483647) && l.all fits2

set_option maxHeartbeats 400000 in
theorem zzFits4_any (op a b : Int) (ad : Option Addr) (n c : Nat) (w : World) :
    Calls Try.prog 79 #[.agg #[.int .i64 op, .int .i64 a, .int .i64 b, .slice ad n c]] w fun e w' => e = .returned (.bool (decide (n ≤ 2147483647))) ∧ Fr [] w w' := by
  by_cases h : n ≤ 2147483647
  · have t : ¬ (2147483647 : Int) < (n : Int) := by omega
    rw [decide_eq_true h]
    go_enter Try.func79, Try.ntmps79
    go_wp2_with fail
    go_ret
    exact ⟨rfl, (Fr.refl _ _).alloc _⟩
  · have t : (2147483647 : Int) < (n : Int) := by omega
    rw [decide_eq_false h]
    go_enter Try.func79, Try.ntmps79
    go_wp2_with fail
    go_ret
    exact ⟨rfl, (Fr.refl _ _).alloc _⟩

set_option maxRecDepth 100000 in
set_option maxHeartbeats 1000000 in
theorem zzFits3_any (W : World) (v : Value) (l : List LCall) (w : World) (h : RSl 4 (RCall W) W v l) (hw : Fr [] W w) :
    Calls Try.prog 64 #[v] w fun e w' => e = .returned (.bool (fits3 l)) ∧ Fr [] w w' := by
  obtain ⟨a, c, rfl, h1, h2⟩ := h.shape
  have H := Lib.hid h
  have Hw := Lib.hid hw
  clear h hw
  by_cases hn : l.length ≤ 2147483647
  · have t : ¬ (2147483647 : Int) < (l.length : Int) := by omega
    have e : fits3 l = l.all fits4 := by simp [fits3, hn]
    rw [e]
    go_enter Try.func64, Try.ntmps64
    go_wp2_with fail
    go_loopw [10] (fun i wr => ∃ k : Nat, k ≤ l.length ∧ i = .int .i64 (k : Int) ∧ (l.take k).all fits4 = true ∧ Fr [] w wr) (fun i _ => l.length - (intOf i).toNat)
    case atStart => exact ⟨0, Nat.zero_le _, rfl, rfl, Fr.refl _ _⟩
    case round =>
      obtain ⟨k, hk, rfl, hall, hfr⟩ := hrel
      have Hall := Lib.hid hall
      have Hfr := Lib.hid hfr
      clear hall hfr
      by_cases hlt : k < l.length
      · obtain ⟨g, o, da, dc, rfl, c0, c1, c2, c3, -⟩ := call_at H.out (Hw.out.then Hfr.out) k hlt
        have hstep := all_take_succ fits4 l k hlt
        have hstop := all_false fits4 l k hlt
        have Hs := Lib.hid (And.intro hstep hstop)
        clear hstep hstop
        generalize l[k] = x at *
        cases hx : fits4 x
        · have Hx := Lib.hid hx
          clear hx
          go_wp2_with (go_at_call 79; go_must (refine (zzFits4_any _ _ _ _ _ _ _).mono ?_))
          have hx' : decide (x.data.length ≤ 2147483647) = _ := Hx.out
          rw [hx']
          clear hx'
          rintro e w1 ⟨rfl, hf1⟩
          have Hf1 := Lib.hid hf1
          clear hf1
          go_wp2
          go_ret
          exact ⟨by rw [Hs.out.2 Hx.out]; rfl, (Hfr.out.alloc _).then Hf1.out⟩
        · have Hx := Lib.hid hx
          clear hx
          go_wp2_with (go_at_call 79; go_must (refine (zzFits4_any _ _ _ _ _ _ _).mono ?_))
          have hx' : decide (x.data.length ≤ 2147483647) = _ := Hx.out
          rw [hx']
          clear hx'
          rintro e w1 ⟨rfl, hf1⟩
          have Hf1 := Lib.hid hf1
          clear hf1
          go_wp2
          go_roundw
          case rel => exact ⟨k + 1, by omega, by go_num, by rw [Hs.out.1, Hall.out, Hx.out]; rfl, (Hfr.out.alloc _).then Hf1.out⟩
          case measure => simp [intOf]; omega
      · obtain rfl : k = l.length := by omega
        clear hlt
        go_wp2
        go_ret
        exact ⟨by rw [← Hall.out, List.take_length]; rfl, Hfr.out⟩
  · have t : (2147483647 : Int) < (l.length : Int) := by omega
    have e : fits3 l = false := by simp [fits3, hn]
    rw [e]
    go_enter Try.func64, Try.ntmps64
    go_wp2_with fail
    go_ret
    exact ⟨rfl, Fr.refl _ _⟩

set_option maxHeartbeats 400000 in
theorem zzFits6_any (W : World) (f : LFrame) (ad : Option Addr) (c : Nat) (w : World) (h : RSl 4 (RCall W) W (.slice ad f.calls.length c) f.calls) (hw : Fr [] W w) :
    Calls Try.prog 80 #[.agg #[.int .u64 (f.start : Int), .int .u64 (f.size : Int), .slice ad f.calls.length c]] w fun e w' => e = .returned (.bool (fits6 f)) ∧ Fr [] w w' := by
  have H := Lib.hid h
  have Hw := Lib.hid hw
  clear h hw
  have e : fits6 f = fits3 f.calls := rfl
  rw [e]
  cases hx : fits3 f.calls
  all_goals
    have Hx := Lib.hid hx
    clear hx e
    go_enter Try.func80, Try.ntmps80
    go_wp2_with (go_at_call 64; go_must (refine (zzFits3_any W _ f.calls _ H.out (Hw.out.alloc _)).mono ?_))
    rw [Hx.out]
    rintro e w1 ⟨rfl, hf1⟩
    have Hf1 := Lib.hid hf1
    clear hf1
    go_wp2
    go_ret
    exact ⟨rfl, ((Fr.refl [] w).alloc _).then Hf1.out⟩

set_option maxRecDepth 100000 in
set_option maxHeartbeats 1000000 in
theorem zzFits5_any (W : World) (v : Value) (l : List LFrame) (w : World) (h : RSl 3 (RFrame W) W v l) (hw : Fr [] W w) :
    Calls Try.prog 65 #[v] w fun e w' => e = .returned (.bool (fits5 l)) ∧ Fr [] w w' := by
  obtain ⟨a, c, rfl, h1, h2⟩ := h.shape
  have H := Lib.hid h
  have Hw := Lib.hid hw
  clear h hw
  by_cases hn : l.length ≤ 2147483647
  · have t : ¬ (2147483647 : Int) < (l.length : Int) := by omega
    have e : fits5 l = l.all fits6 := by simp [fits5, hn]
    rw [e]
    go_enter Try.func65, Try.ntmps65
    go_wp2_with fail
    go_loopw [10] (fun i wr => ∃ k : Nat, k ≤ l.length ∧ i = .int .i64 (k : Int) ∧ (l.take k).all fits6 = true ∧ Fr [] w wr) (fun i _ => l.length - (intOf i).toNat)
    case atStart => exact ⟨0, Nat.zero_le _, rfl, rfl, Fr.refl _ _⟩
    case round =>
      obtain ⟨k, hk, rfl, hall, hfr⟩ := hrel
      have Hall := Lib.hid hall
      have Hfr := Lib.hid hfr
      clear hall hfr
      by_cases hlt : k < l.length
      · obtain ⟨g, o, da, dc, rfl, c0, c1, c2, hd, -⟩ := frame_at H.out (Hw.out.then Hfr.out) k hlt
        have Hd := Lib.hid hd
        clear hd
        have hstep := all_take_succ fits6 l k hlt
        have hstop := all_false fits6 l k hlt
        have Hs := Lib.hid (And.intro hstep hstop)
        clear hstep hstop
        generalize l[k] = x at *
        cases hx : fits6 x
        · have Hx := Lib.hid hx
          clear hx
          go_wp2_with (go_at_call 80; go_must (refine (zzFits6_any W x _ _ _ Hd.out ((Hw.out.then Hfr.out).alloc _)).mono ?_))
          rw [Hx.out]
          rintro e w1 ⟨rfl, hf1⟩
          have Hf1 := Lib.hid hf1
          clear hf1
          go_wp2
          go_ret
          exact ⟨by rw [Hs.out.2 Hx.out]; rfl, (Hfr.out.alloc _).then Hf1.out⟩
        · have Hx := Lib.hid hx
          clear hx
          go_wp2_with (go_at_call 80; go_must (refine (zzFits6_any W x _ _ _ Hd.out ((Hw.out.then Hfr.out).alloc _)).mono ?_))
          rw [Hx.out]
          rintro e w1 ⟨rfl, hf1⟩
          have Hf1 := Lib.hid hf1
          clear hf1
          go_wp2
          go_roundw
          case rel => exact ⟨k + 1, by omega, by go_num, by rw [Hs.out.1, Hall.out, Hx.out]; rfl, (Hfr.out.alloc _).then Hf1.out⟩
          case measure => simp [intOf]; omega
      · obtain rfl : k = l.length := by omega
        clear hlt
        go_wp2
        go_ret
        exact ⟨by rw [← Hall.out, List.take_length]; rfl, Hfr.out⟩
  · have t : (2147483647 : Int) < (l.length : Int) := by omega
    have e : fits5 l = false := by simp [fits5, hn]
    rw [e]
    go_enter Try.func65, Try.ntmps65
    go_wp2_with fail
    go_ret
    exact ⟨rfl, Fr.refl _ _⟩

set_option maxHeartbeats 1000000 in
theorem zzFits2_any (W : World) (x : LCommon) (ca fa : Option Addr) (cc fc : Nat) (w : World) (h : RSl 4 (RCall W) W (.slice ca x.calls.length cc) x.calls) (h' : RSl 3 (RFrame W) W (.slice fa x.frames.length fc) x.frames) (hw : Fr [] W w) :
    Calls Try.prog 41 #[.agg #[.int .i64 x.version, .int .u64 (x.code : Int), .int .i64 x.offset, .int .i64 x.ret, .slice ca x.calls.length cc, .slice fa x.frames.length fc]] w fun e w' =>
      e = .returned (.bool (fits2 x)) ∧ Fr [] w w' := by
  have H := Lib.hid h
  have H' := Lib.hid h'
  have Hw := Lib.hid hw
  clear h h' hw
  have e : fits2 x = (fits3 x.calls && fits5 x.frames) := rfl
  rw [e]
  clear e
  cases hx : fits3 x.calls
  · have Hx := Lib.hid hx
    clear hx
    go_enter Try.func41, Try.ntmps41
    go_wp2_with (go_at_call 64; go_must (refine (zzFits3_any W _ x.calls _ H.out (Hw.out.alloc _)).mono ?_))
    rw [Hx.out]
    rintro e w1 ⟨rfl, hf1⟩
    have Hf1 := Lib.hid hf1
    clear hf1
    go_wp2
    go_ret
    exact ⟨rfl, ((Fr.refl [] w).alloc _).then Hf1.out⟩
  · have Hx := Lib.hid hx
    clear hx
    cases hy : fits5 x.frames
    all_goals
      have Hy := Lib.hid hy
      clear hy
      go_enter Try.func41, Try.ntmps41
      go_wp2_with (go_at_call 64; go_must (refine (zzFits3_any W _ x.calls _ H.out (Hw.out.alloc _)).mono ?_))
      rw [Hx.out]
      rintro e w1 ⟨rfl, hf1⟩
      have Hf1 := Lib.hid hf1
      have g5 : w1.cell? ⟨w.heap.size, 5, none⟩ = some (.slice fa x.frames.length fc) := by
        rw [blk_cell (hf1.get (blk_new _ _) (by simp))]; rfl
      clear hf1
      go_wp2_with (go_at_call 65; go_must (refine (zzFits5_any W _ x.frames _ H'.out ((Hw.out.alloc _).then Hf1.out)).mono ?_))
      rw [Hy.out]
      rintro e w2 ⟨rfl, hf2⟩
      have Hf2 := Lib.hid hf2
      clear hf2
      go_wp2
      go_ret
      exact ⟨rfl, (((Fr.refl [] w).alloc _).then Hf1.out).then Hf2.out⟩

set_option maxRecDepth 100000 in
set_option maxHeartbeats 1000000 in
theorem zzFits1_any (W : World) (v : Value) (l : List LCommon) (w : World) (h : RSl 6 (RCommon W) W v l) (hw : Fr [] W w) :
    Calls Try.prog 19 #[v] w fun e w' => e = .returned (.bool (fits1 l)) ∧ Fr [] w w' := by
  obtain ⟨a, c, rfl, h1, h2⟩ := h.shape
  have H := Lib.hid h
  have Hw := Lib.hid hw
  clear h hw
  by_cases hn : l.length ≤ 2147483647
  · have t : ¬ (2147483647 : Int) < (l.length : Int) := by omega
    have e : fits1 l = l.all fits2 := by simp [fits1, hn]
    rw [e]
    go_enter Try.func19, Try.ntmps19
    go_wp2_with fail
    go_loopw [10] (fun i wr => ∃ k : Nat, k ≤ l.length ∧ i = .int .i64 (k : Int) ∧ (l.take k).all fits2 = true ∧ Fr [] w wr) (fun i _ => l.length - (intOf i).toNat)
    case atStart => exact ⟨0, Nat.zero_le _, rfl, rfl, Fr.refl _ _⟩
    case round =>
      obtain ⟨k, hk, rfl, hall, hfr⟩ := hrel
      have Hall := Lib.hid hall
      have Hfr := Lib.hid hfr
      clear hall hfr
      by_cases hlt : k < l.length
      · obtain ⟨g, o, ca, cc, fa, fc, rfl, c0, c1, c2, c3, c4, c5, hd, he, -⟩ := common_at H.out (Hw.out.then Hfr.out) k hlt
        have Hd := Lib.hid hd
        have He := Lib.hid he
        clear hd he
        have hstep := all_take_succ fits2 l k hlt
        have hstop := all_false fits2 l k hlt
        have Hs := Lib.hid (And.intro hstep hstop)
        clear hstep hstop
        generalize l[k] = x at *
        cases hx : fits2 x
        · have Hx := Lib.hid hx
          clear hx
          go_wp2_with (go_at_call 41; go_must (refine (zzFits2_any W x _ _ _ _ _ Hd.out He.out ((Hw.out.then Hfr.out).alloc _)).mono ?_))
          rw [Hx.out]
          rintro e w1 ⟨rfl, hf1⟩
          have Hf1 := Lib.hid hf1
          clear hf1
          go_wp2
          go_ret
          exact ⟨by rw [Hs.out.2 Hx.out]; rfl, (Hfr.out.alloc _).then Hf1.out⟩
        · have Hx := Lib.hid hx
          clear hx
          go_wp2_with (go_at_call 41; go_must (refine (zzFits2_any W x _ _ _ _ _ Hd.out He.out ((Hw.out.then Hfr.out).alloc _)).mono ?_))
          rw [Hx.out]
          rintro e w1 ⟨rfl, hf1⟩
          have Hf1 := Lib.hid hf1
          clear hf1
          go_wp2
          go_roundw
          case rel => exact ⟨k + 1, by omega, by go_num, by rw [Hs.out.1, Hall.out, Hx.out]; rfl, (Hfr.out.alloc _).then Hf1.out⟩
          case measure => simp [intOf]; omega
      · obtain rfl : k = l.length := by omega
        clear hlt
        go_wp2
        go_ret
        exact ⟨by rw [← Hall.out, List.take_length]; rfl, Hfr.out⟩
  · have t : (2147483647 : Int) < (l.length : Int) := by omega
    have e : fits1 l = false := by simp [fits1, hn]
    rw [e]
    go_enter Try.func19, Try.ntmps19
    go_wp2_with fail
    go_ret
    exact ⟨rfl, Fr.refl _ _⟩
end Go.Proofs.Ytahohmdfllgedaa
