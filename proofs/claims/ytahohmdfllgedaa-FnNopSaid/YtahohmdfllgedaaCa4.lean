/- The reference's evaluation: place, register, jump, shift. -/
import Derived.Test.YtahohmdfllgedaaCa3
set_option linter.unusedVariables false
set_option linter.unusedSimpArgs false
namespace Go.Proofs.Ytahohmdfllgedaa
open Go.RowKit

section
variable {W0 w w' : World} {x : LWorld} {rv mv kv pv lv : Value} {sb : Nat} {s : LSt} {qs : List (LPiece × Value)}
/-- The location is another one. -/
theorem StV.setLoc (h : StV W0 x rv mv sb w s kv pv lv qs) {w1 : World} (f : Fr [] w w1) {lv' : Value} {o : Option LPiece} (hl : LocR W0 w1 lv' o) : StP W0 x rv mv sb w { s with loc := o } (w1.setCell ⟨sb, 7, none⟩ lv') := by
  have h1 := h.call f
  have ft := frT_set h1.blk 7 lv'
  refine ⟨⟨kv, pv, lv', qs, ?_⟩, (FrT.of0 f).trans (ft.mono (by simp))⟩
  have o1 := own_fr h1.own ((Fr.refl [sb] w1).setCell (p := ⟨sb, 7, none⟩) (.inl (by simp)) lv') (fun g hg => by simp; rintro rfl; exact h1.kv_ne hg)
  have o2 := own_fr h1.pcs ((Fr.refl [sb] w1).setCell (p := ⟨sb, 7, none⟩) (.inl (by simp)) lv') (fun g hg => by simp; rintro rfl; exact h1.pv_ne hg)
  exact ⟨by simpa using blk_set h1.blk 7 lv', h.world, h1.fr.setCell (.inr h.ge) _, h.ge, o1, o2, h.pq, fun q hq => (h1.pb q hq).fr (ft.mono (by simp)), hl.fr ft⟩
theorem StP.after (h : StP W0 x rv mv sb w' s w) {w0 : World} (f : Fr [] w0 w') : StP W0 x rv mv sb w0 s w := ⟨h.1, (FrT.of0 f).trans h.2⟩
theorem StP.then (h : StP W0 x rv mv sb w s w') {w2 : World} (f : Fr [] w' w2) : StP W0 x rv mv sb w s w2 := ⟨h.1.call f, h.2.then f⟩
theorem StP.trans {s1 : LSt} {w2 : World} (h : StP W0 x rv mv sb w s1 w') (k : StP W0 x rv mv sb w' s w2) : StP W0 x rv mv sb w s w2 := ⟨k.1, h.2.trans k.2⟩
end

set_option maxRecDepth 100000 in
set_option maxHeartbeats 1000000 in
theorem place_any (W0 : World) (x : LWorld) (rv mv : Value) (sb : Nat) (w : World) (s : LSt) (p : LPiece) (bv : Value) (h : StR W0 x rv mv sb w s) (hb : PB W0 w bv p.bytes) :
    Calls Try.prog 72 #[.pointer (some ⟨sb, 0, none⟩), .agg (pcell p bv).toArray] w fun e w' => e = .returned (.tuple #[]) ∧ StP W0 x rv mv sb w (placeS p s) w' := by
  obtain ⟨kv, pv, lv, qs, hv⟩ := h
  have ho := hv.own
  obtain ⟨a, c, rfl⟩ := own_slice ho
  have hv1 := hv.call ((Fr.refl [] w).alloc (.cells (pcell p bv).toArray 114))
  have c5 : (w.alloc (.cells (pcell p bv).toArray 114)).cell? ⟨sb, 5, none⟩ = some (.slice a s.stack.length c) := hv1.cell 5
  have c7 : (w.alloc (.cells (pcell p bv).toArray 114)).cell? ⟨sb, 7, none⟩ = some lv := hv1.cell 7
  have c8 : (w.alloc (.cells (pcell p bv).toArray 114)).cell? ⟨sb, 8, none⟩ = some (.bool s.left) := hv1.cell 8
  have f7 := hv1.free 7
  have f8 := hv1.free 8
  by_cases hs : s.stack = []
  · have e : placeS p s = { s with loc := some p } := by simp [placeS, hs]
    rw [e]
    have hl : s.stack.length = 0 := by simp [hs]
    rw [hl] at c5
    have Hv := Lib.hid hv
    have Hb := Lib.hid hb
    clear hv hs ho e hv1 hb hl
    go_enter Try.func72, Try.ntmps72
    go_wp2_with fail
    go_end0
    refine ⟨rfl, Hv.out.setLoc ((Fr.refl [] w).alloc _) (LocR.some w.heap.size bv p (blk_new _ _) Hv.out.fr.size (Hb.out.fr (.of0 ((Fr.refl [] w).alloc _))))⟩
  · have e : placeS p s = s.mkLeft := by simp [placeS, hs]
    rw [e]
    have hl : (0 : Int) < (s.stack.length : Int) := by have := List.length_pos_iff.2 hs; omega
    have Hv := Lib.hid hv1
    clear hv hs ho e hv1 hb
    go_enter Try.func72, Try.ntmps72
    go_wp2_with fail
    refine bodyPost_ret (results_none rfl _ _ _) rfl ?_
    refine ⟨rfl, Hv.out.left.after ((Fr.refl [] w).alloc _)⟩
theorem regs_at {W0 : World} {rv mv : Value} {x : LWorld} (h : RWorld W0 rv mv x) (hn : 0 < x.regs.length) :
    ∃ g o c, rv = .slice (some ⟨g, o, none⟩) x.regs.length c ∧ ∀ i (hi : i < x.regs.length), W0.cell? ⟨g, o + i, none⟩ = some (.int .u64 ((x.regs[i] : Nat) : Int)) := by
  obtain ⟨g, o, c, rfl, h1, h2, h3⟩ := sl_some h.rg (by simpa using hn)
  exact ⟨g, o, c, by simp, fun i hi => h3.cell (by simp [hi])⟩
theorem regs_form {W0 : World} {rv mv : Value} {x : LWorld} (h : RWorld W0 rv mv x) : ∃ a c, rv = .slice a x.regs.length c := by
  obtain ⟨a, c, h1, -⟩ := sl_len h.rg
  exact ⟨a, c, by simpa using h1⟩

set_option maxRecDepth 100000 in
set_option maxHeartbeats 1000000 in
theorem register_any (W0 : World) (x : LWorld) (rv mv : Value) (sb : Nat) (w : World) (s : LSt) (n : Int) (h : StR W0 x rv mv sb w s) :
    Calls Try.prog 73 #[.pointer (some ⟨sb, 0, none⟩), vi n] w fun e w' => e = .returned (vi (registerS x n s).1) ∧ StP W0 x rv mv sb w (registerS x n s).2 w' := by
  have hsr := h
  obtain ⟨kv, pv, lv, qs, hv⟩ := h
  by_cases h0 : 0 ≤ n ∧ n < x.regs.length
  · obtain ⟨k, rfl⟩ : ∃ k : Nat, n = k := ⟨n.toNat, by omega⟩
    have hk : k < x.regs.length := by omega
    have e : registerS x (k : Int) s = (wrap64 ((x.regs[k] : Nat) : Int), s) := by simp [registerS, h0, hk]
    rw [e]
    obtain ⟨g, o, c, rfl, hc⟩ := regs_at hv.world (by omega)
    have c0 : w.cell? ⟨sb, 0, none⟩ = some (.slice (some ⟨g, o, none⟩) x.regs.length c) := hv.cell 0
    have cx : w.cell? ⟨g, o + k, none⟩ = some (.int .u64 ((x.regs[k] : Nat) : Int)) := hv.fr.cell (hc k hk) (by simp)
    have Hs := Lib.hid hsr
    clear hv e hc hsr h0
    generalize x.regs[k] = y at *
    generalize hm : x.regs.length = m at *
    have Hm := Lib.hid hm
    clear hm
    go_enter Try.func73, Try.ntmps73
    go_wp2_with fail
    go_ret
    exact ⟨rfl, Hs.out, FrT.refl _ _⟩
  · have e : registerS x n s = (0, s.mkBad) := by simp [registerS, h0]
    rw [e]
    obtain ⟨a, c, rfl⟩ := regs_form hv.world
    have c0 : w.cell? ⟨sb, 0, none⟩ = some (.slice a x.regs.length c) := hv.cell 0
    have c9 : w.cell? ⟨sb, 9, none⟩ = some (.bool s.bad) := hv.cell 9
    have f9 := hv.free 9
    have Hv := Lib.hid hv
    clear hv e hsr
    by_cases h1 : n < 0
    · clear h0
      go_enter Try.func73, Try.ntmps73
      go_wp2_with fail
      go_ret
      exact ⟨rfl, Hv.out.bad⟩
    · have h2 : (x.regs.length : Int) ≤ n := by omega
      clear h0
      go_enter Try.func73, Try.ntmps73
      go_wp2_with fail
      go_ret
      exact ⟨rfl, Hv.out.bad⟩

abbrev opV (c : LCall) (dv : Value) : Value := .agg #[vi c.op, vi c.a, vi c.b, dv]
set_option maxRecDepth 100000 in
set_option maxHeartbeats 2000000 in
theorem jump_any (W0 : World) (x : LWorld) (rv mv : Value) (sb : Nat) (w : World) (s : LSt) (c : LCall) (dv : Value) (h : StR W0 x rv mv sb w s) :
    Calls Try.prog 55 #[.pointer (some ⟨sb, 0, none⟩), opV c dv] w fun e w' => e = .returned (.tuple #[vi (jumpS c s).1, .bool (jumpS c s).2.1]) ∧ StP W0 x rv mv sb w (jumpS c s).2.2 w' := by
  obtain ⟨op, a, b, data⟩ := c
  have Hs : Hid (StR W0 x rv mv sb (w.alloc (.cells #[vi op, vi a, vi b, dv] 48)) s) := h.call ((Fr.refl _ _).alloc _)
  have Hb : Hid ((w.alloc (.cells #[vi op, vi a, vi b, dv] 48)).heap[w.heap.size]? = some (.cells #[vi op, vi a, vi b, dv] 48 (0, 0))) := blk_new _ _
  have F0 : Hid (FrT TS w (w.alloc (.cells #[vi op, vi a, vi b, dv] 48))) := .of0 ((Fr.refl _ _).alloc _)
  clear h
  by_cases h1 : op = 47
  · subst h1
    have e : jumpS ⟨47, a, b, data⟩ s = (a, true, s) := rfl
    rw [e]
    clear e
    go_enter Try.func55, Try.ntmps55
    go_wp2_with fail
    go_ret2
    exact ⟨rfl, Hs.out, F0.out⟩
  by_cases h2 : op = 40
  · subst h2
    have e1 : (popS s).1 ≠ 0 → jumpS ⟨40, a, b, data⟩ s = (a, true, (popS s).2) := by intro hp; simp [jumpS, hp]
    have e2 : (popS s).1 = 0 → jumpS ⟨40, a, b, data⟩ s = (0, false, (popS s).2.mkLeft) := by intro hp; simp [jumpS, hp]
    clear h1
    by_cases hp : (popS s).1 = 0
    · rw [e2 hp]
      have Hp := Lib.hid hp
      clear e1 e2 hp
      go_enter Try.func55, Try.ntmps55
      go_wp2_with (go_at_call 70; go_must (refine (pop_any W0 x rv mv sb _ s Hs.out).mono ?_); rw [Hp.out]; rintro e w1 ⟨rfl, hs1, hf1⟩; obtain ⟨kv, pv, lv, qs, hv1⟩ := hs1; have Hv1 := Lib.hid hv1; have Hf1 := Lib.hid hf1; have c8 := hv1.cell 8; have f8 := hv1.free 8; clear hv1 hf1)
      go_ret2
      exact ⟨rfl, Hv1.out.left.1, (F0.out.trans Hf1.out).trans Hv1.out.left.2⟩
    · rw [e1 hp]
      have hp2 : ((popS s).1 == 0) = false := by simpa using hp
      have hp3 : ((popS s).1 != 0) = true := by simpa using hp
      clear e1 e2 hp
      go_enter Try.func55, Try.ntmps55
      go_wp2_with (go_at_call 70; go_must (refine (pop_any W0 x rv mv sb _ s Hs.out).mono ?_); rintro e w1 ⟨rfl, hs1, hf1⟩; have Hs1 := Lib.hid hs1; have Hf1 := Lib.hid hf1; have c1 : w1.cell? ⟨w.heap.size, 1, none⟩ = some (vi a) := blk_cell (hf1.get Hb.out (by decide)) 1; clear hs1 hf1)
      go_ret2
      exact ⟨rfl, Hs1.out, F0.out.trans Hf1.out⟩
  · have e : jumpS ⟨op, a, b, data⟩ s = (0, false, s) := by simp [jumpS, h1, h2]
    rw [e]
    have q1 : (op == 47) = false := by simpa using h1
    have q2 : (op == 40) = false := by simpa using h2
    clear e h1 h2
    go_enter Try.func55, Try.ntmps55
    go_wp2_with fail
    go_ret2
    exact ⟨rfl, Hs.out, F0.out⟩

set_option maxRecDepth 100000 in
set_option maxHeartbeats 2000000 in
theorem shift_any (W0 : World) (x : LWorld) (rv mv : Value) (sb : Nat) (w : World) (s : LSt) (op a b : Int) (h : StR W0 x rv mv sb w s) (hl : s.stack.length ≤ 1000000) :
    Calls Try.prog 123 #[.pointer (some ⟨sb, 0, none⟩), vi op, vi a, vi b] w fun e w' => e = .returned (.tuple #[]) ∧ StP W0 x rv mv sb w (shiftS op a b s) w' := by
  have Hsr := Lib.hid h
  obtain ⟨kv, pv, lv, qs, hv⟩ := h
  have c8 : w.cell? ⟨sb, 8, none⟩ = some (.bool s.left) := hv.cell 8
  have f8 := hv.free 8
  have Hv := Lib.hid hv
  clear hv
  by_cases h1 : b < 0
  · have e : shiftS op a b s = s.mkLeft := by simp [shiftS, h1]
    rw [e]
    clear e
    go_enter Try.func123, Try.ntmps123
    go_wp2_with fail
    refine bodyPost_ret (results_none rfl _ _ _) rfl ?_
    exact ⟨rfl, Hv.out.left⟩
  by_cases h2 : 63 < b
  · have e : shiftS op a b s = s.mkLeft := by simp [shiftS, h2]
    rw [e]
    clear e
    go_enter Try.func123, Try.ntmps123
    go_wp2_with fail
    refine bodyPost_ret (results_none rfl _ _ _) rfl ?_
    exact ⟨rfl, Hv.out.left⟩
  obtain ⟨k, rfl⟩ : ∃ k : Nat, b = k := ⟨b.toNat, by omega⟩
  have hk : k ≤ 63 := by omega
  have hk1 : ¬ ((k : Int) < 0 ∨ 63 < (k : Int)) := by omega
  clear c8 f8 Hv h1 h2
  by_cases h3 : op = 36
  · subst h3
    have e : shiftS 36 a (k : Int) s = pushS (wrap64 (a * 2 ^ k)) s := by simp [shiftS, hk1]
    rw [e]
    clear e hk1
    go_enter Try.func123, Try.ntmps123
    go_wp2_with (go_at_call 71; go_must (refine (push_any W0 x rv mv sb _ s _ Hsr.out hl).mono ?_); rintro e w1 ⟨rfl, hs1⟩; have Hs1 := Lib.hid hs1; clear hs1)
    go_end0
    exact ⟨rfl, Hs1.out⟩
  by_cases h4 : op = 37
  · subst h4
    have e : shiftS 37 a (k : Int) s = pushS (wrap64 (IntKind.u64.wrap a / 2 ^ k)) s := by simp [shiftS, hk1]
    rw [e]
    clear e hk1
    go_enter Try.func123, Try.ntmps123
    go_wp2_with (go_at_call 71; go_must (refine (push_any W0 x rv mv sb _ s _ Hsr.out hl).mono ?_); rintro e w1 ⟨rfl, hs1⟩; have Hs1 := Lib.hid hs1; clear hs1)
    go_end0
    exact ⟨rfl, Hs1.out⟩
  · have q3 : (op == 36) = false := by simpa using h3
    have q4 : (op == 37) = false := by simpa using h4
    have e : shiftS op a (k : Int) s = pushS (a / 2 ^ k) s := by simp [shiftS, hk1, h3, h4]
    rw [e]
    clear e hk1 h3 h4
    go_enter Try.func123, Try.ntmps123
    go_wp2_with (go_at_call 71; go_must (refine (push_any W0 x rv mv sb _ s _ Hsr.out hl).mono ?_); rintro e w1 ⟨rfl, hs1⟩; have Hs1 := Lib.hid hs1; clear hs1)
    go_end0
    exact ⟨rfl, Hs1.out⟩
end Go.Proofs.Ytahohmdfllgedaa
