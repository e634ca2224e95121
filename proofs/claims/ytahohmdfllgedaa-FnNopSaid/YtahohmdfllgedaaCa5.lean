/- The reference's evaluation: a piece. -/
import Derived.Test.YtahohmdfllgedaaCa4
import Derived.Deep.CutBlock
set_option linter.unusedVariables false
set_option linter.unusedSimpArgs false
namespace Go.Proofs.Ytahohmdfllgedaa
open Go.RowKit

theorem slicePc : SliceT Try.prog 58 114 (.agg #[.int .i64 0, .int .i64 0, .int .i64 0, .slice none 0 0, .bool false]) 5 56 := ⟨Try.underlying58, by kernel_rfl, rfl, by decide⟩
theorem FrT.btype {T : List TypeId} {a b : World} (h : FrT T a b) {k : Nat} {t : TypeId} (hk : btype a k = some t) : btype b k = some t := by
  have hlt : k < a.heap.size := by
    unfold Proofs.Ytahohmdfllgedaa.btype at hk
    by_cases hl : k < a.heap.size
    · exact hl
    · rw [Array.getElem?_eq_none (by omega)] at hk; cases hk
  rcases h.blk k hlt with e | ⟨t', _, e1, e2⟩
  · exact (btype_congr e).trans hk
  · rw [e1] at hk; cases hk; exact e2

section
variable {W0 w w' : World} {x : LWorld} {rv mv kv pv lv : Value} {sb : Nat} {s : LSt} {qs : List (LPiece × Value)}
/-- Other pieces, no location. -/
theorem StV.mkPcs (h : StV W0 x rv mv sb w s kv pv lv qs) {w1 w2 : World} (f0 : Fr [] W0 w1) (ft : FrT [109, 114] w w1) {pv' : Value} {qs' : List (LPiece × Value)} {n' : Nat}
    (o : w1.ownsRow W0.heap.size 114 5 pv' n' (pcells qs')) (hn : n' = qs'.length) (hq : ∀ q ∈ qs', PB W0 w1 q.2 q.1.bytes) (f2 : Fr [sb] w1 w2) {l b : Bool}
    (hb : w2.heap[sb]? = some (.cells (stCells x rv mv kv pv' (.pointer none) l b) 109 (0, 0))) {ps : List LPiece} (hps : qs'.map (·.1) = ps) : StP W0 x rv mv sb w ⟨s.stack, ps, none, l, b⟩ w2 := by
  subst hn
  have hs1 : btype w1 sb = some 109 := ft.btype (btype_of h.blk)
  have ft2 : FrT [109] w1 w2 := FrT.of f2 (fun k hk _ => by simp at hk; subst hk; exact ⟨_, by simp, hs1, btype_of hb⟩)
  have hp : pv'.ownBlock ≠ some sb := by
    intro e
    have h1 := own_btype o e
    rw [hs1] at h1; cases h1
  refine ⟨⟨kv, pv', .pointer none, qs', ?_⟩, (ft.mono (by simp)).trans (ft2.mono (by simp))⟩
  refine ⟨hb, h.world, f0.trans f2 (fun i hi hlt => by simp at hi; subst hi; have := h.ge; omega), h.ge, ?_, ?_, hps, fun q hq' => (hq q hq').fr (ft2.mono (by simp)), .none⟩
  · exact own_fr (ft.own h.own (by decide)) f2 (fun g hg => by simp; rintro rfl; exact h.kv_ne hg)
  · have := own_fr o f2 (fun g hg => by simp; rintro rfl; exact hp hg)
    rw [← hps]; simpa using this
end

set_option maxRecDepth 100000 in
set_option maxHeartbeats 4000000 in
theorem piece_none (W0 : World) (x : LWorld) (rv mv : Value) (sb : Nat) (w : World) (s : LSt) (n : Int) (h : StR W0 x rv mv sb w s) (hl : s.loc = none) (hp : s.pieces.length ≤ 1000000) :
    Calls Try.prog 74 #[.pointer (some ⟨sb, 0, none⟩), vi n] w fun e w' => e = .returned (.tuple #[]) ∧ StP W0 x rv mv sb w (pieceS n s) w' := by
  obtain ⟨kv, pv, lv, qs, hv⟩ := h
  have hloc := hv.loc
  rw [hl] at hloc
  cases hloc
  obtain ⟨ka, kc, rfl⟩ := own_slice hv.own
  have c7 : w.cell? ⟨sb, 7, none⟩ = some (.pointer none) := hv.cell 7
  have c5 : w.cell? ⟨sb, 5, none⟩ = some (.slice ka s.stack.length kc) := hv.cell 5
  have c8 : w.cell? ⟨sb, 8, none⟩ = some (.bool s.left) := hv.cell 8
  have f8 := hv.free 8
  have Hv := Lib.hid hv
  by_cases hn : n = 0
  · subst hn
    have e : pieceS 0 s = s.mkLeft := by simp [pieceS]
    rw [e]
    clear e hv
    go_enter Try.func74, Try.ntmps74
    go_wp2_with fail
    go_end0
    exact ⟨rfl, Hv.out.left⟩
  have q0 : (n == 0) = false := by simpa using hn
  by_cases hs : s.stack.length = 1
  case neg =>
    have e : pieceS n s = s.mkLeft := by simp [pieceS, hn, hl, hs]
    rw [e]
    have q1 : ((s.stack.length : Int) == 1) = false := by rw [beq_eq_false_iff_ne]; omega
    clear e hv hn hs
    go_enter Try.func74, Try.ntmps74
    go_wp2_with fail
    go_end0
    exact ⟨rfl, Hv.out.left⟩
  case pos =>
    obtain ⟨v, hst⟩ : ∃ v, s.stack = [v] := by
      match h : s.stack, hs with
      | [v], _ => exact ⟨v, rfl⟩
    have ep : popS s = (v, { s with stack := [] }) := popS_snoc (l := []) hst
    have e : pieceS n s = ⟨[], s.pieces ++ [⟨0, v, n, [], false⟩], none, s.left, s.bad⟩ := by simp [pieceS, hn, hl, hst, ep]
    rw [e]
    obtain ⟨pa, pc, rfl⟩ := own_slice hv.pcs
    rw [hs] at c5
    have c6 : w.cell? ⟨sb, 6, none⟩ = some (.slice pa s.pieces.length pc) := hv.cell 6
    have Ep := Lib.hid ep
    have Hwl := hv.fr.size
    clear e hv hn hs hst ep hl
    go_enter Try.func74, Try.ntmps74
    go_wp2_with fail
    go_region_law
      (first
        | (have _t := HS1; refine step_app4 slicePc _ (by rfl) _ _ (by rfl) W0.heap.size _ s.pieces.length (pcells qs) (by rfl) (OW.out _) (some ⟨w1.heap.size, 0, none⟩) 1 1 (pcell ⟨0, v, n, [], false⟩ (.slice none 0 0)) (by rfl) (by rfl) (fun h => by cases h) (news_blk (blk_new w1 _)) (by simp [Value.oneCell']) (by omega) (by decide) (by simp; omega) ?_; intro a8 c8' w8 ho8 hf8 hg8 ht8; have HO8 := Lib.hid ho8; have HF8 := Lib.hid hf8; have HT8 := Lib.hid ht8; have B8 := Lib.hid (ht8.get (blk_alloc HS1.out.blk) (by decide)); have s6 : w8.cell? ⟨sb, 6, none⟩ = some (.slice pa s.pieces.length pc) := blk_cell B8.out 6; have z6 : w8.frozen? ⟨sb, 6, none⟩ = false := blk_free B8.out 6; clear ho8 hf8 hg8 ht8)
        | (go_simp; go_at_call 70; go_must (refine (pop_v W0 x rv mv sb _ s _ _ _ _ (Hv.out.call (Fr.drew (Fr.refl _ _)))).mono ?_); rw [Ep.out]; rintro e w1 ⟨rfl, kv1, hs1, ht1⟩; have HS1 := Lib.hid hs1; have HT1 := Lib.hid ht1; have d6 : w1.cell? ⟨sb, 6, none⟩ = some (.slice pa s.pieces.length pc) := hs1.cell 6; have d6a : ∀ o, (w1.alloc o).cell? ⟨sb, 6, none⟩ = some (.slice pa s.pieces.length pc) := fun o => ((Fr.refl [] w1).alloc o).cell d6 (by simp); have OW : Hid (∀ o, (w1.alloc o).ownsRow W0.heap.size 114 5 (.slice pa s.pieces.length pc) s.pieces.length (pcells qs)) := fun o => own_fr hs1.pcs ((Fr.refl [] _).alloc _) (by simp); have SZ := hs1.fr.size; clear hs1 ht1))
    all_goals
      go_wp2_with fail
      go_end0
      have hk := HS1.out.mkPcs (w1 := w8) (w2 := w8.setCell ⟨sb, 6, none⟩ (.slice a8 (s.pieces.length + 1) c8')) (qs' := qs ++ [(⟨0, v, n, [], false⟩, .slice none 0 0)]) (l := s.left) (b := s.bad) (ps := s.pieces ++ [⟨0, v, n, [], false⟩])
        ((HS1.out.fr.alloc _).app (OW.out (.cells #[] 0)) (Nat.le_refl _) HF8.out) (((FrT.refl _ _).alloc _).trans (HT8.out.mono (by simp))) (by simpa [pcells] using HO8.out) (by have := congrArg List.length Hv.out.pq; simp at this; simp [this])
        (by
          intro q hq
          rcases List.mem_append.1 hq with hq | hq
          · exact (HS1.out.pb q hq).fr ((((FrT.refl _ _).alloc _).trans (HT8.out.mono (by simp))))
          · simp at hq; subst hq; exact .inl (.inl ⟨rfl, rfl⟩))
        ((Fr.refl [sb] w8).setCell (.inl (by simp)) _) (by simpa using blk_set B8.out 6 (.slice a8 (s.pieces.length + 1) c8')) (by rw [List.map_append, Hv.out.pq]; rfl)
      exact ⟨rfl, hk.1, ((FrT.refl _ _).drew.trans HT1.out).trans hk.2⟩

theorem PB.form {W0 w : World} {v : Value} {l : List UInt8} (h : PB W0 w v l) : ∃ a c, v = .slice a l.length c := by
  rcases h with h | h
  · obtain ⟨a, c, h1, -⟩ := h.shape; exact ⟨a, c, h1⟩
  · exact own_slice h
theorem pieceOf_little {n : Int} {p : LPiece} (h : p.stk = true ∧ n ≤ 8) : pieceOf n p = { p with bytes := leL (u64of p.value) n.toNat, size := n } := by simp [pieceOf, h]
theorem pieceOf_same {n : Int} {p : LPiece} (h : ¬ (p.stk = true ∧ n ≤ 8)) : pieceOf n p = p := by simp only [pieceOf, if_neg h]
theorem pieceOf_kind (n : Int) (p : LPiece) : (pieceOf n p).kind = p.kind := by unfold pieceOf; split <;> rfl

set_option maxRecDepth 100000 in
set_option maxHeartbeats 4000000 in
theorem piece_zero (W0 : World) (x : LWorld) (rv mv : Value) (sb : Nat) (w : World) (s : LSt) (h : StR W0 x rv mv sb w s) :
    Calls Try.prog 74 #[.pointer (some ⟨sb, 0, none⟩), vi 0] w fun e w' => e = .returned (.tuple #[]) ∧ StP W0 x rv mv sb w s.mkLeft w' := by
  obtain ⟨kv, pv, lv, qs, hv⟩ := h
  have c8 : w.cell? ⟨sb, 8, none⟩ = some (.bool s.left) := hv.cell 8
  have f8 := hv.free 8
  have Hv := Lib.hid hv
  clear hv
  go_enter Try.func74, Try.ntmps74
  go_wp2_with fail
  go_end0
  exact ⟨rfl, Hv.out.left⟩

set_option maxRecDepth 100000 in
set_option maxHeartbeats 4000000 in
theorem piece_some_a (W0 : World) (x : LWorld) (rv mv : Value) (sb : Nat) (w : World) (s : LSt) (n : Int) (p : LPiece) (h : StR W0 x rv mv sb w s) (hl : s.loc = some p) (hp : s.pieces.length ≤ 1000000) (hn0 : 0 ≤ n) (hn : ¬ n = 0) (hst : p.stk = true ∧ n ≤ 8) :
    Calls Try.prog 74 #[.pointer (some ⟨sb, 0, none⟩), vi n] w fun e w' => e = .returned (.tuple #[]) ∧ StP W0 x rv mv sb w ⟨s.stack, s.pieces ++ [pieceOf n p], none, s.left, s.bad⟩ w' := by
  obtain ⟨kv, pv, lv, qs, hv⟩ := h
  have hloc := hv.loc
  rw [hl] at hloc
  cases hloc with
  | some g bv p hg hgW hbv =>
  obtain ⟨pa, pc, rfl⟩ := own_slice hv.pcs
  obtain ⟨ba, bc, rfl⟩ := hbv.form
  have q0 : (n == 0) = false := by simpa using hn
  have c6 : w.cell? ⟨sb, 6, none⟩ = some (.slice pa s.pieces.length pc) := hv.cell 6
  have c7 : w.cell? ⟨sb, 7, none⟩ = some (.pointer (some ⟨g, 0, none⟩)) := hv.cell 7
  have c8 : w.cell? ⟨sb, 8, none⟩ = some (.bool s.left) := hv.cell 8
  have f8 := hv.free 8
  have g0 : w.cell? ⟨g, 0, none⟩ = some (vi p.kind) := blk_cell hg 0
  have g1 : w.cell? ⟨g, 1, none⟩ = some (vi p.value) := blk_cell hg 1
  have g2 : w.cell? ⟨g, 2, none⟩ = some (vi p.size) := blk_cell hg 2
  have g3 : w.cell? ⟨g, 3, none⟩ = some (.slice ba p.bytes.length bc) := blk_cell hg 3
  have hsb := lt_heap hv.blk
  have hpn := hv.pv_ne
  have e2 := pieceOf_little hst
  obtain ⟨hs1, hs2⟩ := hst
  obtain ⟨m, rfl⟩ : ∃ m : Nat, n = m := ⟨n.toNat, by omega⟩
  have e1 : IntKind.u64.wrap p.value = ((u64of p.value : Nat) : Int) := by rw [IntKind.wrap_u64]; exact u64of_cast _
  have hm8 : m ≤ 8 := by omega
  have hl8 := leL_length m (u64of p.value)
  have g4 : w.cell? ⟨g, 4, none⟩ = some (.bool true) := by rw [← hs1]; exact blk_cell hg 4
  have U := u64of_lt p.value
  generalize u64of p.value = u at *
  have Hv := Lib.hid hv
  have Hl8 := Lib.hid hl8
  have Hs1 := Lib.hid hs1
  have Hpn := Lib.hid hpn
  have He2 := Lib.hid e2
  have B0 : Hid ((w.alloc (.cells #[vi p.kind, vi p.value, vi p.size, .slice ba p.bytes.length bc, .bool true] 114)).heap[w.heap.size]? = some (.cells #[vi p.kind, vi p.value, vi p.size, .slice ba p.bytes.length bc, .bool true] 114 (0, 0))) := blk_new _ _
  have F0 : Hid (Fr [] w (w.alloc (.cells #[vi p.kind, vi p.value, vi p.size, .slice ba p.bytes.length bc, .bool true] 114))) := (Fr.refl _ _).alloc _
  have q2 : ((m : Int) != (m : Int)) = false := by simp
  clear hv hg hbv hl hn hs1 hl8 hpn e2
  have hk2 : ∃ kb, (p.kind == 2) = kb := ⟨_, rfl⟩
  obtain ⟨kb, hk2⟩ := hk2
  go_enter Try.func74, Try.ntmps74
  go_upto_region 7 with (go_at_call 48; go_must (refine (Little_any u m U hm8 _).mono ?_); rintro e w1 ⟨a, c, rfl, ho1, hf1⟩; have HO1 := Lib.hid ho1; have HF1 := Lib.hid hf1; have BB : w1.heap[w.heap.size]? = _ := hf1.get B0.out (by simp); have b2 : w1.cell? ⟨w.heap.size, 2, none⟩ = some (vi p.size) := blk_cell BB 2; have b3 : w1.cell? ⟨w.heap.size, 3, none⟩ = some (.slice ba p.bytes.length bc) := blk_cell BB 3; have z3 : ∀ i, w1.frozen? ⟨w.heap.size, i, none⟩ = false := fun i => blk_free BB i; have HBB := Lib.hid BB; clear ho1 hf1 BB)
  have F5 : Hid (Fr [] w ((w1.setCell ⟨w.heap.size, 3, none⟩ (.slice a (leL u m).length c)).setCell ⟨w.heap.size, 2, none⟩ (vi m))) := (((F0.out.then HF1.out).setCell (.inr (by simp)) _).setCell (.inr (by simp)) _)
  have B5 : Hid (((w1.setCell ⟨w.heap.size, 3, none⟩ (.slice a (leL u m).length c)).setCell ⟨w.heap.size, 2, none⟩ (vi m)).heap[w.heap.size]? = some (.cells #[vi p.kind, vi p.value, vi m, .slice a (leL u m).length c, .bool true] 114 (0, 0))) := by
    show _ = _
    simpa using blk_set (blk_set HBB.out 3 (.slice a (leL u m).length c)) 2 (vi m)
  have T5 : Hid (FrT [114] w1 ((w1.setCell ⟨w.heap.size, 3, none⟩ (.slice a (leL u m).length c)).setCell ⟨w.heap.size, 2, none⟩ (vi m))) := ((FrT.refl _ _).setCell HBB.out (by simp) _).setCell (blk_set HBB.out 3 _) (by simp) _
  have P5 : Hid (PB W0 ((w1.setCell ⟨w.heap.size, 3, none⟩ (.slice a (leL u m).length c)).setCell ⟨w.heap.size, 2, none⟩ (vi m)) (.slice a (leL u m).length c) (leL u m)) := (PB.fr (w := w1) (.inr (own_base HO1.out (Nat.zero_le _))) (T5.out.mono (by simp)))
  generalize (w1.setCell ⟨w.heap.size, 3, none⟩ (.slice a (leL u m).length c)).setCell ⟨w.heap.size, 2, none⟩ (vi m) = w5 at *
  clear b3 z3 HBB T5
  have x0 : w5.cell? ⟨w.heap.size, 0, none⟩ = some (vi p.kind) := blk_cell B5.out 0
  have x2 : w5.cell? ⟨w.heap.size, 2, none⟩ = some (vi m) := blk_cell B5.out 2
  have y2 : w5.frozen? ⟨w.heap.size, 2, none⟩ = false := blk_free B5.out 2
  cases kb
  all_goals
    go_upto_region 10 with fail
    have F6 : Hid (Fr [sb] w (w5.setCell ⟨w.heap.size, 2, none⟩ (vi m))) := ((F5.out.mono (by simp)).setCell (.inr (by simp)) _)
    have S6 : Hid ((w5.setCell ⟨w.heap.size, 2, none⟩ (vi m)).heap[sb]? = some (.cells (stCells x rv mv kv (.slice pa s.pieces.length pc) (.pointer (some ⟨g, 0, none⟩)) s.left s.bad) 109 (0, 0))) := blk_set_other (F5.out.get Hv.out.blk (by simp)) (by omega)
    have T6 : Hid (FrT [109, 114] w (w5.setCell ⟨w.heap.size, 2, none⟩ (vi m))) := (FrT.of0 F5.out).setCell B5.out (by simp) _
    have B6 : Hid ((w5.setCell ⟨w.heap.size, 2, none⟩ (vi m)).heap[w.heap.size]? = some (.cells (pcell (pieceOf (m : Int) p) (.slice a (pieceOf (m : Int) p).bytes.length c)).toArray 114 (0, 0))) := by
      show _ = _
      rw [He2.out]
      simpa [Hs1.out] using blk_set B5.out 2 (vi m)
    have P6 : Hid (PB W0 (w5.setCell ⟨w.heap.size, 2, none⟩ (vi m)) (.slice a (pieceOf (m : Int) p).bytes.length c) (pieceOf (m : Int) p).bytes) := by
      show PB _ _ _ _
      rw [He2.out]
      exact PB.fr (w := w5) (by simpa using P5.out) ((FrT.refl _ _).setCell B5.out (by simp) _)
    generalize w5.setCell ⟨w.heap.size, 2, none⟩ (vi m) = w6 at *
    generalize hQ : pieceOf (m : Int) p = Q at *
    have HQ := Lib.hid hQ
    clear hQ
    clear x0 x2 y2 g0 g1 g2 g3 g4 c6 c7 c8 f8 B5 P5 F5
    have OW : Hid (∀ w7, Fr [] w6 w7 → w7.ownsRow W0.heap.size 114 5 (.slice pa s.pieces.length pc) s.pieces.length (pcells qs)) := fun w7 f => own_fr (own_fr Hv.out.pcs F6.out (fun k hk => by simp; rintro rfl; exact Hpn.out hk)) f (by simp)
    have SZ : W0.heap.size ≤ w6.heap.size := Nat.le_trans Hv.out.fr.size F6.out.size
    have d6 : w6.cell? ⟨sb, 6, none⟩ = some (.slice pa s.pieces.length pc) := blk_cell S6.out 6
    have d6a : ∀ o, (w6.alloc o).drew.cell? ⟨sb, 6, none⟩ = some (.slice pa s.pieces.length pc) := fun o => (((Fr.refl [] w6).alloc o).drew).cell d6 (by simp)
    have e0 : w6.cell? ⟨w.heap.size, 0, none⟩ = some (vi Q.kind) := blk_cell B6.out 0
    have e1 : w6.cell? ⟨w.heap.size, 1, none⟩ = some (vi Q.value) := blk_cell B6.out 1
    have e2 : w6.cell? ⟨w.heap.size, 2, none⟩ = some (vi Q.size) := blk_cell B6.out 2
    have e3 : w6.cell? ⟨w.heap.size, 3, none⟩ = some (.slice a Q.bytes.length c) := blk_cell B6.out 3
    have e4 : w6.cell? ⟨w.heap.size, 4, none⟩ = some (.bool Q.stk) := blk_cell B6.out 4
    go_region_law ((refine step_app4 slicePc _ (by rfl) _ _ (by rfl) W0.heap.size _ s.pieces.length (pcells qs) (by rfl) (by first | exact OW.out _ (((Fr.refl _ _).alloc _).drew) | exact OW.out _ (((Fr.refl _ _).drew).alloc _)) (some ⟨w6.heap.size, 0, none⟩) 1 1 (pcell Q (.slice a Q.bytes.length c)) (by rfl) (by rfl) (fun h => by cases h) (news_blk (by first | exact blk_new w6 _ | exact blk_new w6.drew _)) (by simp [Value.oneCell']) (by omega) (by decide) (by simp; omega) ?_; intro a8 c8' w8 ho8 hf8 hg8 ht8; have HO8 := Lib.hid ho8; have F8 : Hid (Fr (Value.slice pa s.pieces.length pc).ownBlock.toList w6 w8) := ⟨hf8.os, hf8.tape, hf8.output, Nat.le_trans (by simp) hf8.size, fun k hk hn => (hf8.blk k (by simp; omega) hn).trans (by first | exact (((Fr.refl [] w6).alloc _).drew).blk k hk (by simp) | exact (((Fr.refl [] w6).drew).alloc _).blk k hk (by simp))⟩; have T8 : Hid (FrT [114] w6 w8) := (FrT.trans (by first | exact ((FrT.refl _ _).alloc _).drew | exact ((FrT.refl _ _).drew).alloc _) ht8); have S8 := Lib.hid (T8.out.get S6.out (by decide)); have s6 : w8.cell? ⟨sb, 6, none⟩ = some (.slice pa s.pieces.length pc) := blk_cell S8.out 6; have z6 : ∀ i, w8.frozen? ⟨sb, i, none⟩ = false := fun i => blk_free S8.out i; have s7 : w8.cell? ⟨sb, 7, none⟩ = some (.pointer (some ⟨g, 0, none⟩)) := blk_cell S8.out 7; have s7a : ∀ u, (w8.setCell ⟨sb, 6, none⟩ u).cell? ⟨sb, 7, none⟩ = some (.pointer (some ⟨g, 0, none⟩)) := (fun u => blk_cell (blk_set S8.out 6 u) 7); have z7a : ∀ u, (w8.setCell ⟨sb, 6, none⟩ u).frozen? ⟨sb, 7, none⟩ = false := (fun u => blk_free (blk_set S8.out 6 u) 7); clear ho8 hf8 hg8 ht8))
    all_goals
      go_wp2_with fail
      go_end0
      have hk := Hv.out.mkPcs (w1 := w8) (w2 := (w8.setCell ⟨sb, 6, none⟩ (.slice a8 (s.pieces.length + 1) c8')).setCell ⟨sb, 7, none⟩ (.pointer none)) (qs' := qs ++ [(Q, .slice a Q.bytes.length c)]) (l := s.left) (b := s.bad) (ps := s.pieces ++ [Q])
        (((Hv.out.fr.trans F6.out (fun i hi hlt => by simp at hi; subst hi; have := Hv.out.ge; omega))).app (OW.out w6 (Fr.refl _ _)) (Nat.le_refl _) F8.out) (T6.out.trans (T8.out.mono (by simp))) (by simpa [pcells] using HO8.out) (by have := congrArg List.length Hv.out.pq; simp at this; simp [this])
        (by
          intro q hq
          rcases List.mem_append.1 hq with hq | hq
          · exact (Hv.out.pb q hq).fr ((T6.out.mono (by simp)).trans (T8.out.mono (by simp)))
          · simp at hq; subst hq; exact P6.out.fr (T8.out.mono (by simp)))
        (((Fr.refl [sb] w8).setCell (.inl (by simp)) _).setCell (.inl (by simp)) _) (by simpa using blk_set (blk_set S8.out 6 (.slice a8 (s.pieces.length + 1) c8')) 7 (.pointer none)) (by rw [List.map_append, Hv.out.pq]; rfl)
      exact ⟨rfl, by rw [HQ.out]; exact hk⟩

set_option maxRecDepth 100000 in
set_option maxHeartbeats 4000000 in
theorem piece_some_fg (W0 : World) (x : LWorld) (rv mv : Value) (sb : Nat) (w : World) (s : LSt) (n : Int) (p : LPiece) (h : StR W0 x rv mv sb w s) (hl : s.loc = some p) (hp : s.pieces.length ≤ 1000000) (hn0 : 0 ≤ n) (hn : ¬ n = 0) (hs : p.stk = false) (hg2 : (p.kind == 2) = false ∨ ((p.kind == 2) = true ∧ (p.size != n) = false)) :
    Calls Try.prog 74 #[.pointer (some ⟨sb, 0, none⟩), vi n] w fun e w' => e = .returned (.tuple #[]) ∧ StP W0 x rv mv sb w ⟨s.stack, s.pieces ++ [{ p with size := n }], none, s.left, s.bad⟩ w' := by
  obtain ⟨kv, pv, lv, qs, hv⟩ := h
  have hloc := hv.loc
  rw [hl] at hloc
  cases hloc with
  | some g bv p hg hgW hbv =>
  obtain ⟨pa, pc, rfl⟩ := own_slice hv.pcs
  obtain ⟨ba, bc, rfl⟩ := hbv.form
  have q0 : (n == 0) = false := by simpa using hn
  have c6 : w.cell? ⟨sb, 6, none⟩ = some (.slice pa s.pieces.length pc) := hv.cell 6
  have c7 : w.cell? ⟨sb, 7, none⟩ = some (.pointer (some ⟨g, 0, none⟩)) := hv.cell 7
  have c8 : w.cell? ⟨sb, 8, none⟩ = some (.bool s.left) := hv.cell 8
  have f8 := hv.free 8
  have g0 : w.cell? ⟨g, 0, none⟩ = some (vi p.kind) := blk_cell hg 0
  have g1 : w.cell? ⟨g, 1, none⟩ = some (vi p.value) := blk_cell hg 1
  have g2 : w.cell? ⟨g, 2, none⟩ = some (vi p.size) := blk_cell hg 2
  have g3 : w.cell? ⟨g, 3, none⟩ = some (.slice ba p.bytes.length bc) := blk_cell hg 3
  have hsb := lt_heap hv.blk
  have hpn := hv.pv_ne
  have g4 : w.cell? ⟨g, 4, none⟩ = some (.bool false) := by rw [← hs]; exact blk_cell hg 4
  have Hv := Lib.hid hv
  have Hs := Lib.hid hs
  have Hpn := Lib.hid hpn
  have Hbv := Lib.hid hbv
  have B0 : Hid ((w.alloc (.cells #[vi p.kind, vi p.value, vi p.size, .slice ba p.bytes.length bc, .bool false] 114)).heap[w.heap.size]? = some (.cells #[vi p.kind, vi p.value, vi p.size, .slice ba p.bytes.length bc, .bool false] 114 (0, 0))) := blk_new _ _
  have F0 : Hid (Fr [] w (w.alloc (.cells #[vi p.kind, vi p.value, vi p.size, .slice ba p.bytes.length bc, .bool false] 114))) := (Fr.refl _ _).alloc _
  clear hv hg hbv hl hn hs hpn
  go_enter Try.func74, Try.ntmps74
  go_upto_region 7 with fail
  generalize w.alloc (.cells #[vi p.kind, vi p.value, vi p.size, .slice ba p.bytes.length bc, .bool false] 114) = w5 at *
  have x0 : w5.cell? ⟨w.heap.size, 0, none⟩ = some (vi p.kind) := blk_cell B0.out 0
  have x2 : w5.cell? ⟨w.heap.size, 2, none⟩ = some (vi p.size) := blk_cell B0.out 2
  have y2 : w5.frozen? ⟨w.heap.size, 2, none⟩ = false := blk_free B0.out 2
  rcases hg2 with hk2 | ⟨hk2, hz⟩
  all_goals
    go_upto_region 10 with fail
    have F6 : Hid (Fr [sb] w (w5.setCell ⟨w.heap.size, 2, none⟩ (vi n))) := ((F0.out.mono (by simp)).setCell (.inr (by simp)) _)
    have S6 : Hid ((w5.setCell ⟨w.heap.size, 2, none⟩ (vi n)).heap[sb]? = some (.cells (stCells x rv mv kv (.slice pa s.pieces.length pc) (.pointer (some ⟨g, 0, none⟩)) s.left s.bad) 109 (0, 0))) := blk_set_other (F0.out.get Hv.out.blk (by simp)) (by omega)
    have T6 : Hid (FrT [109, 114] w (w5.setCell ⟨w.heap.size, 2, none⟩ (vi n))) := (FrT.of0 F0.out).setCell B0.out (by simp) _
    have B6 : Hid ((w5.setCell ⟨w.heap.size, 2, none⟩ (vi n)).heap[w.heap.size]? = some (.cells (pcell { p with size := n } (.slice ba p.bytes.length bc)).toArray 114 (0, 0))) := by
      show _ = _
      simpa [Hs.out] using blk_set B0.out 2 (vi n)
    have P6 : Hid (PB W0 (w5.setCell ⟨w.heap.size, 2, none⟩ (vi n)) (.slice ba p.bytes.length bc) p.bytes) := PB.fr Hbv.out (T6.out.mono (by simp))
    generalize w5.setCell ⟨w.heap.size, 2, none⟩ (vi n) = w6 at *
    have hQb : ({ p with size := n } : LPiece).bytes = p.bytes := rfl
    rw [← hQb] at B6 P6
    clear hQb
    generalize hQ : ({ p with size := n } : LPiece) = Q at *
    have HQ := Lib.hid hQ
    clear hQ
    clear x0 x2 y2 g0 g1 g2 g3 g4 c6 c7 c8 f8 B0 F0
    have OW : Hid (∀ w7, Fr [] w6 w7 → w7.ownsRow W0.heap.size 114 5 (.slice pa s.pieces.length pc) s.pieces.length (pcells qs)) := fun w7 f => own_fr (own_fr Hv.out.pcs F6.out (fun k hk => by simp; rintro rfl; exact Hpn.out hk)) f (by simp)
    have SZ : W0.heap.size ≤ w6.heap.size := Nat.le_trans Hv.out.fr.size F6.out.size
    have d6 : w6.cell? ⟨sb, 6, none⟩ = some (.slice pa s.pieces.length pc) := blk_cell S6.out 6
    have d6a : ∀ o, (w6.alloc o).drew.cell? ⟨sb, 6, none⟩ = some (.slice pa s.pieces.length pc) := fun o => (((Fr.refl [] w6).alloc o).drew).cell d6 (by simp)
    have e0 : w6.cell? ⟨w.heap.size, 0, none⟩ = some (vi Q.kind) := blk_cell B6.out 0
    have e1 : w6.cell? ⟨w.heap.size, 1, none⟩ = some (vi Q.value) := blk_cell B6.out 1
    have e2 : w6.cell? ⟨w.heap.size, 2, none⟩ = some (vi Q.size) := blk_cell B6.out 2
    have e3 : w6.cell? ⟨w.heap.size, 3, none⟩ = some (.slice ba Q.bytes.length bc) := blk_cell B6.out 3
    have e4 : w6.cell? ⟨w.heap.size, 4, none⟩ = some (.bool Q.stk) := blk_cell B6.out 4
    go_region_law ((refine step_app4 slicePc _ (by rfl) _ _ (by rfl) W0.heap.size _ s.pieces.length (pcells qs) (by rfl) (by first | exact OW.out _ (((Fr.refl _ _).alloc _).drew) | exact OW.out _ (((Fr.refl _ _).drew).alloc _)) (some ⟨w6.heap.size, 0, none⟩) 1 1 (pcell Q (.slice ba Q.bytes.length bc)) (by rfl) (by rfl) (fun h => by cases h) (news_blk (by first | exact blk_new w6 _ | exact blk_new w6.drew _)) (by simp [Value.oneCell']) (by omega) (by decide) (by simp; omega) ?_; intro a8 c8' w8 ho8 hf8 hg8 ht8; have HO8 := Lib.hid ho8; have F8 : Hid (Fr (Value.slice pa s.pieces.length pc).ownBlock.toList w6 w8) := ⟨hf8.os, hf8.tape, hf8.output, Nat.le_trans (by simp) hf8.size, fun k hk hn => (hf8.blk k (by simp; omega) hn).trans (by first | exact (((Fr.refl [] w6).alloc _).drew).blk k hk (by simp) | exact (((Fr.refl [] w6).drew).alloc _).blk k hk (by simp))⟩; have T8 : Hid (FrT [114] w6 w8) := (FrT.trans (by first | exact ((FrT.refl _ _).alloc _).drew | exact ((FrT.refl _ _).drew).alloc _) ht8); have S8 := Lib.hid (T8.out.get S6.out (by decide)); have s6 : w8.cell? ⟨sb, 6, none⟩ = some (.slice pa s.pieces.length pc) := blk_cell S8.out 6; have z6 : ∀ i, w8.frozen? ⟨sb, i, none⟩ = false := fun i => blk_free S8.out i; have s7 : w8.cell? ⟨sb, 7, none⟩ = some (.pointer (some ⟨g, 0, none⟩)) := blk_cell S8.out 7; have s7a : ∀ u, (w8.setCell ⟨sb, 6, none⟩ u).cell? ⟨sb, 7, none⟩ = some (.pointer (some ⟨g, 0, none⟩)) := (fun u => blk_cell (blk_set S8.out 6 u) 7); have z7a : ∀ u, (w8.setCell ⟨sb, 6, none⟩ u).frozen? ⟨sb, 7, none⟩ = false := (fun u => blk_free (blk_set S8.out 6 u) 7); clear ho8 hf8 hg8 ht8))
    all_goals
      go_wp2_with fail
      go_end0
      have hk := Hv.out.mkPcs (w1 := w8) (w2 := (w8.setCell ⟨sb, 6, none⟩ (.slice a8 (s.pieces.length + 1) c8')).setCell ⟨sb, 7, none⟩ (.pointer none)) (qs' := qs ++ [(Q, .slice ba Q.bytes.length bc)]) (l := s.left) (b := s.bad) (ps := s.pieces ++ [Q])
        (((Hv.out.fr.trans F6.out (fun i hi hlt => by simp at hi; subst hi; have := Hv.out.ge; omega))).app (OW.out w6 (Fr.refl _ _)) (Nat.le_refl _) F8.out) (T6.out.trans (T8.out.mono (by simp))) (by simpa [pcells] using HO8.out) (by have := congrArg List.length Hv.out.pq; simp at this; simp [this])
        (by
          intro q hq
          rcases List.mem_append.1 hq with hq | hq
          · exact (Hv.out.pb q hq).fr ((T6.out.mono (by simp)).trans (T8.out.mono (by simp)))
          · simp at hq; subst hq; exact P6.out.fr (T8.out.mono (by simp)))
        (((Fr.refl [sb] w8).setCell (.inl (by simp)) _).setCell (.inl (by simp)) _) (by simpa using blk_set (blk_set S8.out 6 (.slice a8 (s.pieces.length + 1) c8')) 7 (.pointer none)) (by rw [List.map_append, Hv.out.pq]; rfl)
      exact ⟨rfl, by rw [HQ.out]; exact hk⟩

set_option maxRecDepth 100000 in
set_option maxHeartbeats 4000000 in
theorem piece_some_fl (W0 : World) (x : LWorld) (rv mv : Value) (sb : Nat) (w : World) (s : LSt) (n : Int) (p : LPiece) (h : StR W0 x rv mv sb w s) (hl : s.loc = some p) (hp : s.pieces.length ≤ 1000000) (hn0 : 0 ≤ n) (hn : ¬ n = 0) (hs : p.stk = false) (hk2 : (p.kind == 2) = true) (hz : (p.size != n) = true) :
    Calls Try.prog 74 #[.pointer (some ⟨sb, 0, none⟩), vi n] w fun e w' => e = .returned (.tuple #[]) ∧ StP W0 x rv mv sb w ⟨s.stack, s.pieces ++ [{ p with size := n }], none, true, s.bad⟩ w' := by
  obtain ⟨kv, pv, lv, qs, hv⟩ := h
  have hloc := hv.loc
  rw [hl] at hloc
  cases hloc with
  | some g bv p hg hgW hbv =>
  obtain ⟨pa, pc, rfl⟩ := own_slice hv.pcs
  obtain ⟨ba, bc, rfl⟩ := hbv.form
  have q0 : (n == 0) = false := by simpa using hn
  have c6 : w.cell? ⟨sb, 6, none⟩ = some (.slice pa s.pieces.length pc) := hv.cell 6
  have c7 : w.cell? ⟨sb, 7, none⟩ = some (.pointer (some ⟨g, 0, none⟩)) := hv.cell 7
  have c8 : w.cell? ⟨sb, 8, none⟩ = some (.bool s.left) := hv.cell 8
  have f8 := hv.free 8
  have g0 : w.cell? ⟨g, 0, none⟩ = some (vi p.kind) := blk_cell hg 0
  have g1 : w.cell? ⟨g, 1, none⟩ = some (vi p.value) := blk_cell hg 1
  have g2 : w.cell? ⟨g, 2, none⟩ = some (vi p.size) := blk_cell hg 2
  have g3 : w.cell? ⟨g, 3, none⟩ = some (.slice ba p.bytes.length bc) := blk_cell hg 3
  have hsb := lt_heap hv.blk
  have hpn := hv.pv_ne
  have g4 : w.cell? ⟨g, 4, none⟩ = some (.bool false) := by rw [← hs]; exact blk_cell hg 4
  have Hv := Lib.hid hv
  have Hs := Lib.hid hs
  have Hpn := Lib.hid hpn
  have Hbv := Lib.hid hbv
  have B0 : Hid ((w.alloc (.cells #[vi p.kind, vi p.value, vi p.size, .slice ba p.bytes.length bc, .bool false] 114)).heap[w.heap.size]? = some (.cells #[vi p.kind, vi p.value, vi p.size, .slice ba p.bytes.length bc, .bool false] 114 (0, 0))) := blk_new _ _
  have F0 : Hid (Fr [] w (w.alloc (.cells #[vi p.kind, vi p.value, vi p.size, .slice ba p.bytes.length bc, .bool false] 114))) := (Fr.refl _ _).alloc _
  clear hv hg hbv hl hn hs hpn
  go_enter Try.func74, Try.ntmps74
  go_upto_region 7 with fail
  generalize w.alloc (.cells #[vi p.kind, vi p.value, vi p.size, .slice ba p.bytes.length bc, .bool false] 114) = w5 at *
  have x0 : w5.cell? ⟨w.heap.size, 0, none⟩ = some (vi p.kind) := blk_cell B0.out 0
  have x2 : w5.cell? ⟨w.heap.size, 2, none⟩ = some (vi p.size) := blk_cell B0.out 2
  have y2 : w5.frozen? ⟨w.heap.size, 2, none⟩ = false := blk_free B0.out 2
  have s8 : w5.cell? ⟨sb, 8, none⟩ = some (.bool s.left) := F0.out.cell c8 (by simp)
  have z8 : w5.frozen? ⟨sb, 8, none⟩ = false := blk_free (F0.out.get Hv.out.blk (by simp)) 8
  have hnsb : ¬ w.heap.size = sb := by omega
  have hnsb2 : ¬ sb = w.heap.size := by omega
  go_upto_region 10 with fail
  have S5 : Hid ((w5.setCell ⟨sb, 8, none⟩ (.bool true)).heap[sb]? = some (.cells (stCells x rv mv kv (.slice pa s.pieces.length pc) (.pointer (some ⟨g, 0, none⟩)) true s.bad) 109 (0, 0))) := by
    show _ = _
    simpa using blk_set (F0.out.get Hv.out.blk (by simp)) 8 (.bool true)
  have F6 : Hid (Fr [sb] w ((w5.setCell ⟨sb, 8, none⟩ (.bool true)).setCell ⟨w.heap.size, 2, none⟩ (vi n))) := ((((F0.out.mono (by simp)).setCell (.inl (by simp)) _)).setCell (.inr (by simp)) _)
  have S6 : Hid (((w5.setCell ⟨sb, 8, none⟩ (.bool true)).setCell ⟨w.heap.size, 2, none⟩ (vi n)).heap[sb]? = some (.cells (stCells x rv mv kv (.slice pa s.pieces.length pc) (.pointer (some ⟨g, 0, none⟩)) true s.bad) 109 (0, 0))) := blk_set_other S5.out (by omega)
  have T6 : Hid (FrT [109, 114] w ((w5.setCell ⟨sb, 8, none⟩ (.bool true)).setCell ⟨w.heap.size, 2, none⟩ (vi n))) := ((FrT.of0 F0.out).setCell (F0.out.get Hv.out.blk (by simp)) (by simp) _).setCell (blk_set_other B0.out (by omega)) (by simp) _
  have B6 : Hid (((w5.setCell ⟨sb, 8, none⟩ (.bool true)).setCell ⟨w.heap.size, 2, none⟩ (vi n)).heap[w.heap.size]? = some (.cells (pcell { p with size := n } (.slice ba p.bytes.length bc)).toArray 114 (0, 0))) := by
    show _ = _
    have := blk_set (blk_set_other B0.out (i := 8) (u := .bool true) (g := sb) (by omega)) 2 (vi n)
    simpa [Hs.out] using this
  have P6 : Hid (PB W0 ((w5.setCell ⟨sb, 8, none⟩ (.bool true)).setCell ⟨w.heap.size, 2, none⟩ (vi n)) (.slice ba p.bytes.length bc) p.bytes) := PB.fr Hbv.out (T6.out.mono (by simp))
  generalize (w5.setCell ⟨sb, 8, none⟩ (.bool true)).setCell ⟨w.heap.size, 2, none⟩ (vi n) = w6 at *
  have hQb : ({ p with size := n } : LPiece).bytes = p.bytes := rfl
  rw [← hQb] at B6 P6
  clear hQb
  generalize hQ : ({ p with size := n } : LPiece) = Q at *
  have HQ := Lib.hid hQ
  clear hQ
  clear x0 x2 y2 g0 g1 g2 g3 g4 c6 c7 c8 f8 B0 F0 s8 z8 S5
  have OW : Hid (∀ w7, Fr [] w6 w7 → w7.ownsRow W0.heap.size 114 5 (.slice pa s.pieces.length pc) s.pieces.length (pcells qs)) := fun w7 f => own_fr (own_fr Hv.out.pcs F6.out (fun k hk => by simp; rintro rfl; exact Hpn.out hk)) f (by simp)
  have SZ : W0.heap.size ≤ w6.heap.size := Nat.le_trans Hv.out.fr.size F6.out.size
  have d6 : w6.cell? ⟨sb, 6, none⟩ = some (.slice pa s.pieces.length pc) := blk_cell S6.out 6
  have d6a : ∀ o, (w6.alloc o).drew.cell? ⟨sb, 6, none⟩ = some (.slice pa s.pieces.length pc) := fun o => (((Fr.refl [] w6).alloc o).drew).cell d6 (by simp)
  have e0 : w6.cell? ⟨w.heap.size, 0, none⟩ = some (vi Q.kind) := blk_cell B6.out 0
  have e1 : w6.cell? ⟨w.heap.size, 1, none⟩ = some (vi Q.value) := blk_cell B6.out 1
  have e2 : w6.cell? ⟨w.heap.size, 2, none⟩ = some (vi Q.size) := blk_cell B6.out 2
  have e3 : w6.cell? ⟨w.heap.size, 3, none⟩ = some (.slice ba Q.bytes.length bc) := blk_cell B6.out 3
  have e4 : w6.cell? ⟨w.heap.size, 4, none⟩ = some (.bool Q.stk) := blk_cell B6.out 4
  go_region_law ((refine step_app4 slicePc _ (by rfl) _ _ (by rfl) W0.heap.size _ s.pieces.length (pcells qs) (by rfl) (by first | exact OW.out _ (((Fr.refl _ _).alloc _).drew) | exact OW.out _ (((Fr.refl _ _).drew).alloc _)) (some ⟨w6.heap.size, 0, none⟩) 1 1 (pcell Q (.slice ba Q.bytes.length bc)) (by rfl) (by rfl) (fun h => by cases h) (news_blk (by first | exact blk_new w6 _ | exact blk_new w6.drew _)) (by simp [Value.oneCell']) (by omega) (by decide) (by simp; omega) ?_; intro a8 c8' w8 ho8 hf8 hg8 ht8; have HO8 := Lib.hid ho8; have F8 : Hid (Fr (Value.slice pa s.pieces.length pc).ownBlock.toList w6 w8) := ⟨hf8.os, hf8.tape, hf8.output, Nat.le_trans (by simp) hf8.size, fun k hk hn => (hf8.blk k (by simp; omega) hn).trans (by first | exact (((Fr.refl [] w6).alloc _).drew).blk k hk (by simp) | exact (((Fr.refl [] w6).drew).alloc _).blk k hk (by simp))⟩; have T8 : Hid (FrT [114] w6 w8) := (FrT.trans (by first | exact ((FrT.refl _ _).alloc _).drew | exact ((FrT.refl _ _).drew).alloc _) ht8); have S8 := Lib.hid (T8.out.get S6.out (by decide)); have s6 : w8.cell? ⟨sb, 6, none⟩ = some (.slice pa s.pieces.length pc) := blk_cell S8.out 6; have z6 : ∀ i, w8.frozen? ⟨sb, i, none⟩ = false := fun i => blk_free S8.out i; have s7 : w8.cell? ⟨sb, 7, none⟩ = some (.pointer (some ⟨g, 0, none⟩)) := blk_cell S8.out 7; have s7a : ∀ u, (w8.setCell ⟨sb, 6, none⟩ u).cell? ⟨sb, 7, none⟩ = some (.pointer (some ⟨g, 0, none⟩)) := (fun u => blk_cell (blk_set S8.out 6 u) 7); have z7a : ∀ u, (w8.setCell ⟨sb, 6, none⟩ u).frozen? ⟨sb, 7, none⟩ = false := (fun u => blk_free (blk_set S8.out 6 u) 7); clear ho8 hf8 hg8 ht8))
  all_goals
    go_wp2_with fail
    go_end0
    have hk := Hv.out.mkPcs (w1 := w8) (w2 := (w8.setCell ⟨sb, 6, none⟩ (.slice a8 (s.pieces.length + 1) c8')).setCell ⟨sb, 7, none⟩ (.pointer none)) (qs' := qs ++ [(Q, .slice ba Q.bytes.length bc)]) (l := true) (b := s.bad) (ps := s.pieces ++ [Q])
      (((Hv.out.fr.trans F6.out (fun i hi hlt => by simp at hi; subst hi; have := Hv.out.ge; omega))).app (OW.out w6 (Fr.refl _ _)) (Nat.le_refl _) F8.out) (T6.out.trans (T8.out.mono (by simp))) (by simpa [pcells] using HO8.out) (by have := congrArg List.length Hv.out.pq; simp at this; simp [this])
      (by
        intro q hq
        rcases List.mem_append.1 hq with hq | hq
        · exact (Hv.out.pb q hq).fr ((T6.out.mono (by simp)).trans (T8.out.mono (by simp)))
        · simp at hq; subst hq; exact P6.out.fr (T8.out.mono (by simp)))
      (((Fr.refl [sb] w8).setCell (.inl (by simp)) _).setCell (.inl (by simp)) _) (by simpa using blk_set (blk_set S8.out 6 (.slice a8 (s.pieces.length + 1) c8')) 7 (.pointer none)) (by rw [List.map_append, Hv.out.pq]; rfl)
    exact ⟨rfl, by rw [HQ.out]; exact hk⟩

set_option maxRecDepth 100000 in
set_option maxHeartbeats 4000000 in
theorem piece_some_tg (W0 : World) (x : LWorld) (rv mv : Value) (sb : Nat) (w : World) (s : LSt) (n : Int) (p : LPiece) (h : StR W0 x rv mv sb w s) (hl : s.loc = some p) (hp : s.pieces.length ≤ 1000000) (hn0 : 0 ≤ n) (hn : ¬ n = 0) (hs : p.stk = true) (hn8 : ¬ n ≤ 8) (hg2 : (p.kind == 2) = false ∨ ((p.kind == 2) = true ∧ (p.size != n) = false)) :
    Calls Try.prog 74 #[.pointer (some ⟨sb, 0, none⟩), vi n] w fun e w' => e = .returned (.tuple #[]) ∧ StP W0 x rv mv sb w ⟨s.stack, s.pieces ++ [{ p with size := n }], none, s.left, s.bad⟩ w' := by
  obtain ⟨kv, pv, lv, qs, hv⟩ := h
  have hloc := hv.loc
  rw [hl] at hloc
  cases hloc with
  | some g bv p hg hgW hbv =>
  obtain ⟨pa, pc, rfl⟩ := own_slice hv.pcs
  obtain ⟨ba, bc, rfl⟩ := hbv.form
  have q0 : (n == 0) = false := by simpa using hn
  have c6 : w.cell? ⟨sb, 6, none⟩ = some (.slice pa s.pieces.length pc) := hv.cell 6
  have c7 : w.cell? ⟨sb, 7, none⟩ = some (.pointer (some ⟨g, 0, none⟩)) := hv.cell 7
  have c8 : w.cell? ⟨sb, 8, none⟩ = some (.bool s.left) := hv.cell 8
  have f8 := hv.free 8
  have g0 : w.cell? ⟨g, 0, none⟩ = some (vi p.kind) := blk_cell hg 0
  have g1 : w.cell? ⟨g, 1, none⟩ = some (vi p.value) := blk_cell hg 1
  have g2 : w.cell? ⟨g, 2, none⟩ = some (vi p.size) := blk_cell hg 2
  have g3 : w.cell? ⟨g, 3, none⟩ = some (.slice ba p.bytes.length bc) := blk_cell hg 3
  have hsb := lt_heap hv.blk
  have hpn := hv.pv_ne
  have g4 : w.cell? ⟨g, 4, none⟩ = some (.bool true) := by rw [← hs]; exact blk_cell hg 4
  have Hv := Lib.hid hv
  have Hs := Lib.hid hs
  have Hpn := Lib.hid hpn
  have Hbv := Lib.hid hbv
  have B0 : Hid ((w.alloc (.cells #[vi p.kind, vi p.value, vi p.size, .slice ba p.bytes.length bc, .bool true] 114)).heap[w.heap.size]? = some (.cells #[vi p.kind, vi p.value, vi p.size, .slice ba p.bytes.length bc, .bool true] 114 (0, 0))) := blk_new _ _
  have F0 : Hid (Fr [] w (w.alloc (.cells #[vi p.kind, vi p.value, vi p.size, .slice ba p.bytes.length bc, .bool true] 114))) := (Fr.refl _ _).alloc _
  clear hv hg hbv hl hn hs hpn
  go_enter Try.func74, Try.ntmps74
  go_upto_region 7 with fail
  generalize w.alloc (.cells #[vi p.kind, vi p.value, vi p.size, .slice ba p.bytes.length bc, .bool true] 114) = w5 at *
  have x0 : w5.cell? ⟨w.heap.size, 0, none⟩ = some (vi p.kind) := blk_cell B0.out 0
  have x2 : w5.cell? ⟨w.heap.size, 2, none⟩ = some (vi p.size) := blk_cell B0.out 2
  have y2 : w5.frozen? ⟨w.heap.size, 2, none⟩ = false := blk_free B0.out 2
  rcases hg2 with hk2 | ⟨hk2, hz⟩
  all_goals
    go_upto_region 10 with fail
    have F6 : Hid (Fr [sb] w (w5.setCell ⟨w.heap.size, 2, none⟩ (vi n))) := ((F0.out.mono (by simp)).setCell (.inr (by simp)) _)
    have S6 : Hid ((w5.setCell ⟨w.heap.size, 2, none⟩ (vi n)).heap[sb]? = some (.cells (stCells x rv mv kv (.slice pa s.pieces.length pc) (.pointer (some ⟨g, 0, none⟩)) s.left s.bad) 109 (0, 0))) := blk_set_other (F0.out.get Hv.out.blk (by simp)) (by omega)
    have T6 : Hid (FrT [109, 114] w (w5.setCell ⟨w.heap.size, 2, none⟩ (vi n))) := (FrT.of0 F0.out).setCell B0.out (by simp) _
    have B6 : Hid ((w5.setCell ⟨w.heap.size, 2, none⟩ (vi n)).heap[w.heap.size]? = some (.cells (pcell { p with size := n } (.slice ba p.bytes.length bc)).toArray 114 (0, 0))) := by
      show _ = _
      simpa [Hs.out] using blk_set B0.out 2 (vi n)
    have P6 : Hid (PB W0 (w5.setCell ⟨w.heap.size, 2, none⟩ (vi n)) (.slice ba p.bytes.length bc) p.bytes) := PB.fr Hbv.out (T6.out.mono (by simp))
    generalize w5.setCell ⟨w.heap.size, 2, none⟩ (vi n) = w6 at *
    have hQb : ({ p with size := n } : LPiece).bytes = p.bytes := rfl
    rw [← hQb] at B6 P6
    clear hQb
    generalize hQ : ({ p with size := n } : LPiece) = Q at *
    have HQ := Lib.hid hQ
    clear hQ
    clear x0 x2 y2 g0 g1 g2 g3 g4 c6 c7 c8 f8 B0 F0
    have OW : Hid (∀ w7, Fr [] w6 w7 → w7.ownsRow W0.heap.size 114 5 (.slice pa s.pieces.length pc) s.pieces.length (pcells qs)) := fun w7 f => own_fr (own_fr Hv.out.pcs F6.out (fun k hk => by simp; rintro rfl; exact Hpn.out hk)) f (by simp)
    have SZ : W0.heap.size ≤ w6.heap.size := Nat.le_trans Hv.out.fr.size F6.out.size
    have d6 : w6.cell? ⟨sb, 6, none⟩ = some (.slice pa s.pieces.length pc) := blk_cell S6.out 6
    have d6a : ∀ o, (w6.alloc o).drew.cell? ⟨sb, 6, none⟩ = some (.slice pa s.pieces.length pc) := fun o => (((Fr.refl [] w6).alloc o).drew).cell d6 (by simp)
    have e0 : w6.cell? ⟨w.heap.size, 0, none⟩ = some (vi Q.kind) := blk_cell B6.out 0
    have e1 : w6.cell? ⟨w.heap.size, 1, none⟩ = some (vi Q.value) := blk_cell B6.out 1
    have e2 : w6.cell? ⟨w.heap.size, 2, none⟩ = some (vi Q.size) := blk_cell B6.out 2
    have e3 : w6.cell? ⟨w.heap.size, 3, none⟩ = some (.slice ba Q.bytes.length bc) := blk_cell B6.out 3
    have e4 : w6.cell? ⟨w.heap.size, 4, none⟩ = some (.bool Q.stk) := blk_cell B6.out 4
    go_region_law ((refine step_app4 slicePc _ (by rfl) _ _ (by rfl) W0.heap.size _ s.pieces.length (pcells qs) (by rfl) (by first | exact OW.out _ (((Fr.refl _ _).alloc _).drew) | exact OW.out _ (((Fr.refl _ _).drew).alloc _)) (some ⟨w6.heap.size, 0, none⟩) 1 1 (pcell Q (.slice ba Q.bytes.length bc)) (by rfl) (by rfl) (fun h => by cases h) (news_blk (by first | exact blk_new w6 _ | exact blk_new w6.drew _)) (by simp [Value.oneCell']) (by omega) (by decide) (by simp; omega) ?_; intro a8 c8' w8 ho8 hf8 hg8 ht8; have HO8 := Lib.hid ho8; have F8 : Hid (Fr (Value.slice pa s.pieces.length pc).ownBlock.toList w6 w8) := ⟨hf8.os, hf8.tape, hf8.output, Nat.le_trans (by simp) hf8.size, fun k hk hn => (hf8.blk k (by simp; omega) hn).trans (by first | exact (((Fr.refl [] w6).alloc _).drew).blk k hk (by simp) | exact (((Fr.refl [] w6).drew).alloc _).blk k hk (by simp))⟩; have T8 : Hid (FrT [114] w6 w8) := (FrT.trans (by first | exact ((FrT.refl _ _).alloc _).drew | exact ((FrT.refl _ _).drew).alloc _) ht8); have S8 := Lib.hid (T8.out.get S6.out (by decide)); have s6 : w8.cell? ⟨sb, 6, none⟩ = some (.slice pa s.pieces.length pc) := blk_cell S8.out 6; have z6 : ∀ i, w8.frozen? ⟨sb, i, none⟩ = false := fun i => blk_free S8.out i; have s7 : w8.cell? ⟨sb, 7, none⟩ = some (.pointer (some ⟨g, 0, none⟩)) := blk_cell S8.out 7; have s7a : ∀ u, (w8.setCell ⟨sb, 6, none⟩ u).cell? ⟨sb, 7, none⟩ = some (.pointer (some ⟨g, 0, none⟩)) := (fun u => blk_cell (blk_set S8.out 6 u) 7); have z7a : ∀ u, (w8.setCell ⟨sb, 6, none⟩ u).frozen? ⟨sb, 7, none⟩ = false := (fun u => blk_free (blk_set S8.out 6 u) 7); clear ho8 hf8 hg8 ht8))
    all_goals
      go_wp2_with fail
      go_end0
      have hk := Hv.out.mkPcs (w1 := w8) (w2 := (w8.setCell ⟨sb, 6, none⟩ (.slice a8 (s.pieces.length + 1) c8')).setCell ⟨sb, 7, none⟩ (.pointer none)) (qs' := qs ++ [(Q, .slice ba Q.bytes.length bc)]) (l := s.left) (b := s.bad) (ps := s.pieces ++ [Q])
        (((Hv.out.fr.trans F6.out (fun i hi hlt => by simp at hi; subst hi; have := Hv.out.ge; omega))).app (OW.out w6 (Fr.refl _ _)) (Nat.le_refl _) F8.out) (T6.out.trans (T8.out.mono (by simp))) (by simpa [pcells] using HO8.out) (by have := congrArg List.length Hv.out.pq; simp at this; simp [this])
        (by
          intro q hq
          rcases List.mem_append.1 hq with hq | hq
          · exact (Hv.out.pb q hq).fr ((T6.out.mono (by simp)).trans (T8.out.mono (by simp)))
          · simp at hq; subst hq; exact P6.out.fr (T8.out.mono (by simp)))
        (((Fr.refl [sb] w8).setCell (.inl (by simp)) _).setCell (.inl (by simp)) _) (by simpa using blk_set (blk_set S8.out 6 (.slice a8 (s.pieces.length + 1) c8')) 7 (.pointer none)) (by rw [List.map_append, Hv.out.pq]; rfl)
      exact ⟨rfl, by rw [HQ.out]; exact hk⟩

set_option maxRecDepth 100000 in
set_option maxHeartbeats 4000000 in
theorem piece_some_tl (W0 : World) (x : LWorld) (rv mv : Value) (sb : Nat) (w : World) (s : LSt) (n : Int) (p : LPiece) (h : StR W0 x rv mv sb w s) (hl : s.loc = some p) (hp : s.pieces.length ≤ 1000000) (hn0 : 0 ≤ n) (hn : ¬ n = 0) (hs : p.stk = true) (hn8 : ¬ n ≤ 8) (hk2 : (p.kind == 2) = true) (hz : (p.size != n) = true) :
    Calls Try.prog 74 #[.pointer (some ⟨sb, 0, none⟩), vi n] w fun e w' => e = .returned (.tuple #[]) ∧ StP W0 x rv mv sb w ⟨s.stack, s.pieces ++ [{ p with size := n }], none, true, s.bad⟩ w' := by
  obtain ⟨kv, pv, lv, qs, hv⟩ := h
  have hloc := hv.loc
  rw [hl] at hloc
  cases hloc with
  | some g bv p hg hgW hbv =>
  obtain ⟨pa, pc, rfl⟩ := own_slice hv.pcs
  obtain ⟨ba, bc, rfl⟩ := hbv.form
  have q0 : (n == 0) = false := by simpa using hn
  have c6 : w.cell? ⟨sb, 6, none⟩ = some (.slice pa s.pieces.length pc) := hv.cell 6
  have c7 : w.cell? ⟨sb, 7, none⟩ = some (.pointer (some ⟨g, 0, none⟩)) := hv.cell 7
  have c8 : w.cell? ⟨sb, 8, none⟩ = some (.bool s.left) := hv.cell 8
  have f8 := hv.free 8
  have g0 : w.cell? ⟨g, 0, none⟩ = some (vi p.kind) := blk_cell hg 0
  have g1 : w.cell? ⟨g, 1, none⟩ = some (vi p.value) := blk_cell hg 1
  have g2 : w.cell? ⟨g, 2, none⟩ = some (vi p.size) := blk_cell hg 2
  have g3 : w.cell? ⟨g, 3, none⟩ = some (.slice ba p.bytes.length bc) := blk_cell hg 3
  have hsb := lt_heap hv.blk
  have hpn := hv.pv_ne
  have g4 : w.cell? ⟨g, 4, none⟩ = some (.bool true) := by rw [← hs]; exact blk_cell hg 4
  have Hv := Lib.hid hv
  have Hs := Lib.hid hs
  have Hpn := Lib.hid hpn
  have Hbv := Lib.hid hbv
  have B0 : Hid ((w.alloc (.cells #[vi p.kind, vi p.value, vi p.size, .slice ba p.bytes.length bc, .bool true] 114)).heap[w.heap.size]? = some (.cells #[vi p.kind, vi p.value, vi p.size, .slice ba p.bytes.length bc, .bool true] 114 (0, 0))) := blk_new _ _
  have F0 : Hid (Fr [] w (w.alloc (.cells #[vi p.kind, vi p.value, vi p.size, .slice ba p.bytes.length bc, .bool true] 114))) := (Fr.refl _ _).alloc _
  clear hv hg hbv hl hn hs hpn
  go_enter Try.func74, Try.ntmps74
  go_upto_region 7 with fail
  generalize w.alloc (.cells #[vi p.kind, vi p.value, vi p.size, .slice ba p.bytes.length bc, .bool true] 114) = w5 at *
  have x0 : w5.cell? ⟨w.heap.size, 0, none⟩ = some (vi p.kind) := blk_cell B0.out 0
  have x2 : w5.cell? ⟨w.heap.size, 2, none⟩ = some (vi p.size) := blk_cell B0.out 2
  have y2 : w5.frozen? ⟨w.heap.size, 2, none⟩ = false := blk_free B0.out 2
  have s8 : w5.cell? ⟨sb, 8, none⟩ = some (.bool s.left) := F0.out.cell c8 (by simp)
  have z8 : w5.frozen? ⟨sb, 8, none⟩ = false := blk_free (F0.out.get Hv.out.blk (by simp)) 8
  have hnsb : ¬ w.heap.size = sb := by omega
  have hnsb2 : ¬ sb = w.heap.size := by omega
  go_upto_region 10 with fail
  have S5 : Hid ((w5.setCell ⟨sb, 8, none⟩ (.bool true)).heap[sb]? = some (.cells (stCells x rv mv kv (.slice pa s.pieces.length pc) (.pointer (some ⟨g, 0, none⟩)) true s.bad) 109 (0, 0))) := by
    show _ = _
    simpa using blk_set (F0.out.get Hv.out.blk (by simp)) 8 (.bool true)
  have F6 : Hid (Fr [sb] w ((w5.setCell ⟨sb, 8, none⟩ (.bool true)).setCell ⟨w.heap.size, 2, none⟩ (vi n))) := ((((F0.out.mono (by simp)).setCell (.inl (by simp)) _)).setCell (.inr (by simp)) _)
  have S6 : Hid (((w5.setCell ⟨sb, 8, none⟩ (.bool true)).setCell ⟨w.heap.size, 2, none⟩ (vi n)).heap[sb]? = some (.cells (stCells x rv mv kv (.slice pa s.pieces.length pc) (.pointer (some ⟨g, 0, none⟩)) true s.bad) 109 (0, 0))) := blk_set_other S5.out (by omega)
  have T6 : Hid (FrT [109, 114] w ((w5.setCell ⟨sb, 8, none⟩ (.bool true)).setCell ⟨w.heap.size, 2, none⟩ (vi n))) := ((FrT.of0 F0.out).setCell (F0.out.get Hv.out.blk (by simp)) (by simp) _).setCell (blk_set_other B0.out (by omega)) (by simp) _
  have B6 : Hid (((w5.setCell ⟨sb, 8, none⟩ (.bool true)).setCell ⟨w.heap.size, 2, none⟩ (vi n)).heap[w.heap.size]? = some (.cells (pcell { p with size := n } (.slice ba p.bytes.length bc)).toArray 114 (0, 0))) := by
    show _ = _
    have := blk_set (blk_set_other B0.out (i := 8) (u := .bool true) (g := sb) (by omega)) 2 (vi n)
    simpa [Hs.out] using this
  have P6 : Hid (PB W0 ((w5.setCell ⟨sb, 8, none⟩ (.bool true)).setCell ⟨w.heap.size, 2, none⟩ (vi n)) (.slice ba p.bytes.length bc) p.bytes) := PB.fr Hbv.out (T6.out.mono (by simp))
  generalize (w5.setCell ⟨sb, 8, none⟩ (.bool true)).setCell ⟨w.heap.size, 2, none⟩ (vi n) = w6 at *
  have hQb : ({ p with size := n } : LPiece).bytes = p.bytes := rfl
  rw [← hQb] at B6 P6
  clear hQb
  generalize hQ : ({ p with size := n } : LPiece) = Q at *
  have HQ := Lib.hid hQ
  clear hQ
  clear x0 x2 y2 g0 g1 g2 g3 g4 c6 c7 c8 f8 B0 F0 s8 z8 S5
  have OW : Hid (∀ w7, Fr [] w6 w7 → w7.ownsRow W0.heap.size 114 5 (.slice pa s.pieces.length pc) s.pieces.length (pcells qs)) := fun w7 f => own_fr (own_fr Hv.out.pcs F6.out (fun k hk => by simp; rintro rfl; exact Hpn.out hk)) f (by simp)
  have SZ : W0.heap.size ≤ w6.heap.size := Nat.le_trans Hv.out.fr.size F6.out.size
  have d6 : w6.cell? ⟨sb, 6, none⟩ = some (.slice pa s.pieces.length pc) := blk_cell S6.out 6
  have d6a : ∀ o, (w6.alloc o).drew.cell? ⟨sb, 6, none⟩ = some (.slice pa s.pieces.length pc) := fun o => (((Fr.refl [] w6).alloc o).drew).cell d6 (by simp)
  have e0 : w6.cell? ⟨w.heap.size, 0, none⟩ = some (vi Q.kind) := blk_cell B6.out 0
  have e1 : w6.cell? ⟨w.heap.size, 1, none⟩ = some (vi Q.value) := blk_cell B6.out 1
  have e2 : w6.cell? ⟨w.heap.size, 2, none⟩ = some (vi Q.size) := blk_cell B6.out 2
  have e3 : w6.cell? ⟨w.heap.size, 3, none⟩ = some (.slice ba Q.bytes.length bc) := blk_cell B6.out 3
  have e4 : w6.cell? ⟨w.heap.size, 4, none⟩ = some (.bool Q.stk) := blk_cell B6.out 4
  go_region_law ((refine step_app4 slicePc _ (by rfl) _ _ (by rfl) W0.heap.size _ s.pieces.length (pcells qs) (by rfl) (by first | exact OW.out _ (((Fr.refl _ _).alloc _).drew) | exact OW.out _ (((Fr.refl _ _).drew).alloc _)) (some ⟨w6.heap.size, 0, none⟩) 1 1 (pcell Q (.slice ba Q.bytes.length bc)) (by rfl) (by rfl) (fun h => by cases h) (news_blk (by first | exact blk_new w6 _ | exact blk_new w6.drew _)) (by simp [Value.oneCell']) (by omega) (by decide) (by simp; omega) ?_; intro a8 c8' w8 ho8 hf8 hg8 ht8; have HO8 := Lib.hid ho8; have F8 : Hid (Fr (Value.slice pa s.pieces.length pc).ownBlock.toList w6 w8) := ⟨hf8.os, hf8.tape, hf8.output, Nat.le_trans (by simp) hf8.size, fun k hk hn => (hf8.blk k (by simp; omega) hn).trans (by first | exact (((Fr.refl [] w6).alloc _).drew).blk k hk (by simp) | exact (((Fr.refl [] w6).drew).alloc _).blk k hk (by simp))⟩; have T8 : Hid (FrT [114] w6 w8) := (FrT.trans (by first | exact ((FrT.refl _ _).alloc _).drew | exact ((FrT.refl _ _).drew).alloc _) ht8); have S8 := Lib.hid (T8.out.get S6.out (by decide)); have s6 : w8.cell? ⟨sb, 6, none⟩ = some (.slice pa s.pieces.length pc) := blk_cell S8.out 6; have z6 : ∀ i, w8.frozen? ⟨sb, i, none⟩ = false := fun i => blk_free S8.out i; have s7 : w8.cell? ⟨sb, 7, none⟩ = some (.pointer (some ⟨g, 0, none⟩)) := blk_cell S8.out 7; have s7a : ∀ u, (w8.setCell ⟨sb, 6, none⟩ u).cell? ⟨sb, 7, none⟩ = some (.pointer (some ⟨g, 0, none⟩)) := (fun u => blk_cell (blk_set S8.out 6 u) 7); have z7a : ∀ u, (w8.setCell ⟨sb, 6, none⟩ u).frozen? ⟨sb, 7, none⟩ = false := (fun u => blk_free (blk_set S8.out 6 u) 7); clear ho8 hf8 hg8 ht8))
  all_goals
    go_wp2_with fail
    go_end0
    have hk := Hv.out.mkPcs (w1 := w8) (w2 := (w8.setCell ⟨sb, 6, none⟩ (.slice a8 (s.pieces.length + 1) c8')).setCell ⟨sb, 7, none⟩ (.pointer none)) (qs' := qs ++ [(Q, .slice ba Q.bytes.length bc)]) (l := true) (b := s.bad) (ps := s.pieces ++ [Q])
      (((Hv.out.fr.trans F6.out (fun i hi hlt => by simp at hi; subst hi; have := Hv.out.ge; omega))).app (OW.out w6 (Fr.refl _ _)) (Nat.le_refl _) F8.out) (T6.out.trans (T8.out.mono (by simp))) (by simpa [pcells] using HO8.out) (by have := congrArg List.length Hv.out.pq; simp at this; simp [this])
      (by
        intro q hq
        rcases List.mem_append.1 hq with hq | hq
        · exact (Hv.out.pb q hq).fr ((T6.out.mono (by simp)).trans (T8.out.mono (by simp)))
        · simp at hq; subst hq; exact P6.out.fr (T8.out.mono (by simp)))
      (((Fr.refl [sb] w8).setCell (.inl (by simp)) _).setCell (.inl (by simp)) _) (by simpa using blk_set (blk_set S8.out 6 (.slice a8 (s.pieces.length + 1) c8')) 7 (.pointer none)) (by rw [List.map_append, Hv.out.pq]; rfl)
    exact ⟨rfl, by rw [HQ.out]; exact hk⟩

theorem piece_any (W0 : World) (x : LWorld) (rv mv : Value) (sb : Nat) (w : World) (s : LSt) (n : Int) (h : StR W0 x rv mv sb w s) (hp : s.pieces.length ≤ 1000000) (hn0 : 0 ≤ n) :
    Calls Try.prog 74 #[.pointer (some ⟨sb, 0, none⟩), vi n] w fun e w' => e = .returned (.tuple #[]) ∧ StP W0 x rv mv sb w (pieceS n s) w' := by
  cases hl : s.loc with
  | none => exact piece_none W0 x rv mv sb w s n h hl hp
  | some p =>
    by_cases hn : n = 0
    · subst hn
      have e : pieceS 0 s = s.mkLeft := by simp [pieceS]
      rw [e]
      exact piece_zero W0 x rv mv sb w s h
    by_cases hst : p.stk = true ∧ n ≤ 8
    · have e1 := pieceOf_little hst
      have e : pieceS n s = ⟨s.stack, s.pieces ++ [pieceOf n p], none, s.left, s.bad⟩ := by simp [pieceS, hn, hl, e1]
      rw [e]
      exact piece_some_a W0 x rv mv sb w s n p h hl hp hn0 hn hst
    · have e1 := pieceOf_same hst
      by_cases hg : p.kind = 2 ∧ p.size ≠ n
      · have e : pieceS n s = ⟨s.stack, s.pieces ++ [{ p with size := n }], none, true, s.bad⟩ := by simp [pieceS, hn, hl, e1, hg]
        rw [e]
        rcases Bool.eq_false_or_eq_true p.stk with hs | hs
        rotate_left
        · exact piece_some_fl W0 x rv mv sb w s n p h hl hp hn0 hn hs (by simp [hg.1]) (by simpa using hg.2)
        · exact piece_some_tl W0 x rv mv sb w s n p h hl hp hn0 hn hs (fun h => hst ⟨hs, h⟩) (by simp [hg.1]) (by simpa using hg.2)
      · have e : pieceS n s = ⟨s.stack, s.pieces ++ [{ p with size := n }], none, s.left, s.bad⟩ := by simp [pieceS, hn, hl, e1]; intro h1 h2; exact absurd ⟨h1, h2⟩ hg
        have hg2 : (p.kind == 2) = false ∨ ((p.kind == 2) = true ∧ (p.size != n) = false) := by
          by_cases h1 : p.kind = 2
          · right
            have : p.size = n := Classical.byContradiction fun h2 => hg ⟨h1, h2⟩
            simp [this, h1]
          · left; simpa using h1
        rw [e]
        rcases Bool.eq_false_or_eq_true p.stk with hs | hs
        rotate_left
        · exact piece_some_fg W0 x rv mv sb w s n p h hl hp hn0 hn hs hg2
        · exact piece_some_tg W0 x rv mv sb w s n p h hl hp hn0 hn hs (fun h => hst ⟨hs, h⟩) hg2
end Go.Proofs.Ytahohmdfllgedaa
