/- The machine: where a location is told (closeLoc), and pieces.
The machine: registers, values of the stack as locations, pieces, addresses. Printed by gen_eop.py.
What is known behind a step that tells a location, or jumps; the operations that tell a location. -/
import Derived.Test.YtahohmdfllgedaaCa25
set_option linter.unusedVariables false
set_option linter.unusedSimpArgs false
namespace Go.Proofs.Ytahohmdfllgedaa
open Go.RowKit

theorem sliceOP : SliceT Try.prog 128 133 (.agg #[.int .i64 0, .int .u8 0, .int .u64 0, .slice none 0 0]) 4 48 := ⟨Try.underlying128, by kernel_rfl, rfl, by decide⟩

section
variable {D : CxD} {cb : Nat} {w w' : World} {k : List Int} {ps : List LPiece} {p bb : Nat} {bv : Value} {bl : List UInt8} {off : Nat} {rd : Bool} {kv qv : Value} {qs : List (LPiece × Value)}
theorem CxV.oq (h : CxV D cb w k ps p bb bv bl off rd kv qv qs) {w7 : World} (f : Fr [] w w7) : w7.ownsRow D.W.heap.size 133 4 qv ps.length (ocells qs) := own_fr h.pcs f (by simp)
/-- One piece more. -/
theorem CxV.psh (h : CxV D cb w k ps p bb bv bl off rd kv qv qs) {w1 : World} (f0 : Fr [] D.W w1) (ft : FrT [133] w w1) {qv' : Value} {r : LPiece} {bvr : Value} (hb : OB D.W.heap.size w bvr r) {n' : Nat} (hn : n' = ps.length + 1)
    (o : w1.ownsRow D.W.heap.size 133 4 qv' n' (ocells qs ++ ocell r bvr)) : CxV D cb (w1.setCell ⟨cb, 3, none⟩ qv') k (ps ++ [r]) p bb bv bl off rd kv qv' (qs ++ [(r, bvr)]) := by
  subst hn
  have hb1 := ft.get h.blk (by decide)
  have f2 := (ft.mono (T' := TI) (by simp)).trans (cx_set hb1 3 qv')
  have fs := (Fr.refl [cb] w1).setCell (p := ⟨cb, 3, none⟩) (.inl (by simp)) qv'
  have hk : qv'.ownBlock ≠ some cb := by
    intro e
    have h1 := own_btype o e
    rw [btype_of hb1] at h1; cases h1
  have hbf : BufR w1 bb bv bl off rd := ⟨ft.get h.buf.1 (by decide), h.bsl.fr f0 (by simp), h.buf.2.2⟩
  refine ⟨by simpa using blk_set hb1 3 qv', f0.setCell (.inr h.ge) _, h.ge, h.bge, hbf.fr fs (by simpa using h.bne) (fun g hg => by simp; rintro rfl; exact h.bv_ne h.ge hg), h.bsl, h.bD, h.pos, h.ple, ?_, ?_, ?_, ?_, ?_⟩
  · exact own_fr (ft.own h.own (by decide)) fs (fun g hg => by simp; rintro rfl; exact h.kv_ne.1 hg)
  · have e : ocells (qs ++ [(r, bvr)]) = ocells qs ++ ocell r bvr := by simp [ocells]
    rw [e]
    have e2 : (ps ++ [r]).length = ps.length + 1 := by simp
    rw [e2]
    exact own_fr o fs (fun g hg => by simp; rintro rfl; exact hk hg)
  · intro e; simp at e
  · rw [List.map_append, h.pq]; rfl
  · intro q hq
    rcases List.mem_append.1 hq with hq | hq
    · exact (h.pb q hq).fr f2
    · simp at hq; subst hq; exact hb.fr f2
theorem CxV.appQ {qa : Option Addr} {qc : Nat} (h : CxV D cb w k ps p bb bv bl off rd kv (.slice qa ps.length qc) qs) {w0 w1 : World} (f : Fr [] w w0) (ht : FrT [133] w0 w1) :
    w1.heap[cb]? = some (.cells (cxCells D bb kv (.slice qa ps.length qc)) 168 (0, 0)) := ht.get (f.get h.blk (by simp)) (by decide)
theorem CxV.pushedQV {qa : Option Addr} {qc : Nat} (h : CxV D cb w k ps p bb bv bl off rd kv (.slice qa ps.length qc) qs) {w0 w1 : World} (f : Fr [] w w0) (hf : Fr (Value.slice qa ps.length qc).ownBlock.toList w0 w1) (ht : FrT [133] w0 w1)
    {a' : Option Addr} {c' : Nat} {r : LPiece} {bvr : Value} (hb : OB D.W.heap.size w bvr r) (ho : w1.ownsRow D.W.heap.size 133 4 (.slice a' (ps.length + 1) c') (ps.length + 1) (ocells qs ++ ocell r bvr)) :
    CxV D cb (w1.setCell ⟨cb, 3, none⟩ (.slice a' (ps.length + 1) c')) k (ps ++ [r]) p bb bv bl off rd kv (.slice a' (ps.length + 1) c') (qs ++ [(r, bvr)]) :=
  h.psh ((h.fr.then f).app (own_fr h.pcs f (by simp)) (Nat.le_refl _) hf) ((FrT.of0 f).trans ht) hb rfl ho
theorem CxV.pushedQ {qa : Option Addr} {qc : Nat} (h : CxV D cb w k ps p bb bv bl off rd kv (.slice qa ps.length qc) qs) {w0 w1 : World} (f : Fr [] w w0) (hf : Fr (Value.slice qa ps.length qc).ownBlock.toList w0 w1) (ht : FrT [133] w0 w1)
    {a' : Option Addr} {c' : Nat} {r : LPiece} {bvr : Value} (hb : OB D.W.heap.size w bvr r) (ho : w1.ownsRow D.W.heap.size 133 4 (.slice a' (ps.length + 1) c') (ps.length + 1) (ocells qs ++ ocell r bvr)) :
    CxR D cb (w1.setCell ⟨cb, 3, none⟩ (.slice a' (ps.length + 1) c')) k (ps ++ [r]) p :=
  ⟨bb, bv, bl, off, rd, kv, _, _, h.psh ((h.fr.then f).app (own_fr h.pcs f (by simp)) (Nat.le_refl _) hf) ((FrT.of0 f).trans ht) hb rfl ho⟩
/-- A box of a piece is turned. -/
theorem CxV.pokeQ (h : CxV D cb w k ps p bb bv bl off rd kv qv qs) {xb i : Nat} {cs : Array Value} (hx : w.heap[xb]? = some (.cells cs 133 (0, 0))) (hne : qv.ownBlock ≠ some xb) (hge : D.W.heap.size ≤ xb) (u : Value) :
    CxV D cb (w.setCell ⟨xb, i, none⟩ u) k ps p bb bv bl off rd kv qv qs := by
  have ft : FrT [133] w (w.setCell ⟨xb, i, none⟩ u) := (FrT.refl _ _).setCell hx (by simp) u
  have fs := (Fr.refl [xb] w).setCell (p := ⟨xb, i, none⟩) (.inl (by simp)) u
  have hb : bb ≠ xb := by
    rintro rfl
    have h1 := h.buf.1
    rw [hx] at h1; simp at h1
  refine ⟨ft.get h.blk (by decide), h.fr.setCell (.inr hge) _, h.ge, h.bge, h.buf.fr fs (by simpa using hb) (fun g hg => by simp; rintro rfl; exact h.bv_ne hge hg), h.bsl, h.bD, h.pos, h.ple, ft.own h.own (by decide), ?_, h.pn, h.pq, fun q hq => (h.pb q hq).fr (ft.mono (by simp))⟩
  exact own_fr h.pcs fs (fun g hg => by simp; rintro rfl; exact hne hg)
/-- The stack, emptied. -/
theorem CxV.nilS {ka : Option Addr} {kc n : Nat} (h : CxV D cb w k ps p bb bv bl off rd (.slice ka n kc) qv qs) {w1 : World} (f : Fr [] w w1) :
    CxV D cb (w1.setCell ⟨cb, 2, none⟩ (.slice ka 0 kc)) [] ps p bb bv bl off rd (.slice ka 0 kc) qv qs := by
  have hl := h.own.1
  rcases h.own.2 with ⟨hv, h0⟩ | ⟨g, cap, cur, hv, r⟩
  · simp only [Value.slice.injEq] at hv
    obtain ⟨rfl, rfl, rfl⟩ := hv
    have := h.stk (h.fr.then f) (.of0 f) (n' := 0) (k' := []) rfl (kv' := .slice none 0 0) (World.ownsRow_nil _ _ _ _)
    simpa using this
  · simp only [Value.slice.injEq] at hv
    obtain ⟨rfl, rfl, rfl⟩ := hv
    have := h.cut (m := 0) f (Nat.zero_le _)
    simpa using this
end

set_option maxRecDepth 100000 in
set_option maxHeartbeats 4000000 in
theorem closeLoc_end (D : CxD) (cb : Nat) (w : World) (k : List Int) (ps : List LPiece) (opc : Int) (q : LPiece) (bvq : Value) (h : CxR D cb w k ps D.code.length) (hps : ps.length ≤ 1000000) (hq : OB D.W.heap.size w bvq q) :
    Calls Try.prog 127 #[.pointer (some ⟨cb, 0, none⟩), .int .u8 opc, .agg #[vi q.size, .int .u8 q.kind, .int .u64 ((u64of q.value : Nat) : Int), bvq]] w (OkP D cb k (ps ++ [q]) D.code.length) := by
  obtain ⟨bb, bv, bl, off, rd, kv, qv, qs, hv⟩ := h
  have ho := hv.atEnd rfl
  subst ho
  obtain ⟨qa, qc, rfl⟩ := own_slice hv.pcs
  obtain ⟨um, hum⟩ : ∃ um, u64of q.value = um := ⟨_, rfl⟩
  rw [hum]
  have Hum := Lib.hid hum
  clear hum
  obtain ⟨ba, bn, bc, rfl⟩ : ∃ a n c, bvq = .slice a n c := by
    rcases hq with ⟨-, -, ⟨g, c, rfl⟩, -⟩ | ⟨-, rfl⟩
    · exact ⟨_, _, _, rfl⟩
    · exact ⟨_, _, _, rfl⟩
  have hbx := blk_new w (.cells #[vi q.size, .int .u8 q.kind, .int .u64 (um : Int), .slice ba bn bc] 133)
  have hv1 := hv.call ((Fr.refl [] w).alloc (.cells #[vi q.size, .int .u8 q.kind, .int .u64 (um : Int), .slice ba bn bc] 133))
  have hq1 := hq.fr ((FrT.refl TI w).alloc (.cells #[vi q.size, .int .u8 q.kind, .int .u64 (um : Int), .slice ba bn bc] 133))
  obtain ⟨wa, hwa⟩ : ∃ wa, wa = w.alloc (.cells #[vi q.size, .int .u8 q.kind, .int .u64 (um : Int), .slice ba bn bc] 133) := ⟨_, rfl⟩
  rw [← hwa] at hbx hv1 hq1
  have hge : D.W.heap.size ≤ w.heap.size := hv.fr.size
  obtain ⟨xb, hxb⟩ : ∃ xb, xb = w.heap.size := ⟨_, rfl⟩
  rw [← hxb] at hbx hge
  have b0 : ∀ w', Fr [] wa w' → w'.cell? ⟨xb, 0, none⟩ = some (vi q.size) ∧ w'.cell? ⟨xb, 1, none⟩ = some (.int .u8 q.kind) ∧ w'.cell? ⟨xb, 2, none⟩ = some (.int .u64 (um : Int)) ∧ w'.cell? ⟨xb, 3, none⟩ = some (.slice ba bn bc) := fun w' f => by
    have k6 := f.get hbx (by simp)
    exact ⟨blk_cell k6 0, blk_cell k6 1, blk_cell k6 2, blk_cell k6 3⟩
  have c0 : wa.cell? ⟨cb, 0, none⟩ = some (.pointer (some ⟨bb, 0, none⟩)) := hv1.cell 0
  have c3 : wa.cell? ⟨cb, 3, none⟩ = some (.slice qa ps.length qc) := hv1.cell 3
  have HB0 := Lib.hid b0
  have Hv := Lib.hid hv1
  have Hq := Lib.hid hq1
  have Hwa := Lib.hid hwa
  have Hxb := Lib.hid hxb
  clear hv hv1 hq hq1 hwa hbx b0 hxb
  go_enter Try.func127, Try.ntmps127
  go_upto_region 1 with fail
  rw [← Hwa.out, ← Hxb.out]
  go_wp2_with (go_at_call 69; go_must (refine (BufLen_any bb bv bl bl.length 0 rd _ Hv.out.buf (Nat.add_zero _)).mono ?_); rintro e w1 ⟨rfl, n1, hw1⟩; have F1 : Hid (Fr [] wa w1) := (by rw [hw1]; exact (Fr.refl [] wa).drewN n1); clear hw1)
  have d3 : w1.cell? ⟨cb, 3, none⟩ = some (.slice qa ps.length qc) := F1.out.cell c3 (by simp)
  obtain ⟨e0, e1, e2, e3⟩ := HB0.out _ F1.out
  have d3a : ∀ o, (w1.alloc o).drew.cell? ⟨cb, 3, none⟩ = some (.slice qa ps.length qc) := fun o => (((Fr.refl [] w1).alloc o).drew).cell d3 (by simp)
  have Hv1 := Lib.hid (Hv.out.call F1.out)
  have Hq1 := Lib.hid (Hq.out.fr (.of0 F1.out))
  have z3 := Hv1.out.free 3
  have SZ := Nat.le_trans Hv.out.fr.size F1.out.size
  clear c0 c3
  go_region_law ((go_must (refine step_app4 sliceOP _ (by rfl) _ _ (by rfl) D.W.heap.size _ ps.length (ocells qs) (by rfl) (Hv1.out.oq (by first | exact ((Fr.refl [] _).alloc _) | exact ((Fr.refl [] _).alloc _).drew | exact ((Fr.refl [] _).drew).alloc _)) (some ⟨w1.heap.size, 0, none⟩) 1 1 [vi q.size, .int .u8 q.kind, .int .u64 (um : Int), .slice ba bn bc] (by rfl) (by rfl) (fun h => by cases h) (by first | exact news_blk (blk_new w1 _) | exact news_blk (blk_new w1.drew _)) (by simp [Value.oneCell']) (by omega) (by decide) (by simp; omega) ?_); intro a8 c8' w8 ho8 hf8 hg8 ht8; have HP := Lib.hid (Hv1.out.pushedQ (by first | exact ((Fr.refl [] _).alloc _) | exact ((Fr.refl [] _).alloc _).drew | exact ((Fr.refl [] _).drew).alloc _) hf8 ht8 (r := q) Hq1.out (by rw [ocell, Hum.out]; exact ho8)); have hb8 := Hv1.out.appQ (by first | exact ((Fr.refl [] _).alloc _) | exact ((Fr.refl [] _).alloc _).drew | exact ((Fr.refl [] _).drew).alloc _) ht8; have s2 : w8.cell? ⟨cb, 3, none⟩ = some (.slice qa ps.length qc) := blk_cell hb8 3; have z2 : w8.frozen? ⟨cb, 3, none⟩ = false := blk_free hb8 3; clear ho8 hf8 hg8 ht8 hb8))
  all_goals
    go_wp2_with fail
    go_ret
    exact ⟨rfl, HP.out⟩

set_option maxRecDepth 100000 in
set_option maxHeartbeats 8000000 in
theorem closeLoc_piece (D : CxD) (cb : Nat) (w : World) (k : List Int) (ps : List LPiece) (p p1 p' n : Nat) (opc : Int) (q r : LPiece) (bvq : Value) (h : CxR D cb w k ps p) (hps : ps.length ≤ 1000000) (ha1 : AtC D p [147] p1) (ha2 : AtC D p1 (uleb n) p') (hn : n < 9223372036854775808)
    (hq : OB D.W.heap.size w bvq r) (hr1 : r.kind = q.kind) (hr2 : r.value = q.value) (hr3 : r.size = (n : Int)) :
    Calls Try.prog 127 #[.pointer (some ⟨cb, 0, none⟩), .int .u8 opc, .agg #[vi q.size, .int .u8 q.kind, .int .u64 ((u64of q.value : Nat) : Int), bvq]] w (OkP D cb [] (ps ++ [r]) p') := by
  obtain ⟨bb, bv, bl, off, rd, kv, qv, qs, hv⟩ := h
  obtain ⟨ka, kc, rfl⟩ := own_slice hv.own
  obtain ⟨qa, qc, rfl⟩ := own_slice hv.pcs
  obtain ⟨um, hum⟩ : ∃ um, u64of q.value = um := ⟨_, rfl⟩
  have hroom := hv.room ha1
  obtain ⟨m, hm⟩ : ∃ m, off + (m + 1) = bl.length := ⟨bl.length - off - 1, by simp at hroom; omega⟩
  rw [hum]
  obtain ⟨ba, bn, bc, rfl⟩ : ∃ a n c, bvq = .slice a n c := by
    rcases hq with ⟨-, -, ⟨g, c, rfl⟩, -⟩ | ⟨-, rfl⟩
    · exact ⟨_, _, _, rfl⟩
    · exact ⟨_, _, _, rfl⟩
  have hcell : ocell r (.slice ba bn bc) = [vi (n : Int), .int .u8 q.kind, .int .u64 (um : Int), .slice ba bn bc] := by rw [ocell, hr1, hr2, hr3, hum]
  have hbx := blk_new w (.cells #[vi q.size, .int .u8 q.kind, .int .u64 (um : Int), .slice ba bn bc] 133)
  have hqv : (Value.slice qa ps.length qc).ownBlock ≠ some w.heap.size := fun e => by have := (hv.pcs.lt _ e).2; omega
  have hv1 := hv.call ((Fr.refl [] w).alloc (.cells #[vi q.size, .int .u8 q.kind, .int .u64 (um : Int), .slice ba bn bc] 133))
  have hq1 := hq.fr ((FrT.refl TI w).alloc (.cells #[vi q.size, .int .u8 q.kind, .int .u64 (um : Int), .slice ba bn bc] 133))
  have hge : D.W.heap.size ≤ w.heap.size := hv.fr.size
  obtain ⟨wa, hwa⟩ : ∃ wa, wa = w.alloc (.cells #[vi q.size, .int .u8 q.kind, .int .u64 (um : Int), .slice ba bn bc] 133) := ⟨_, rfl⟩
  rw [← hwa] at hbx hv1 hq1
  obtain ⟨xb, hxb⟩ : ∃ xb, xb = w.heap.size := ⟨_, rfl⟩
  rw [← hxb] at hbx hge hqv
  have c0 : wa.cell? ⟨cb, 0, none⟩ = some (.pointer (some ⟨bb, 0, none⟩)) := hv1.cell 0
  have Hbx := Lib.hid hbx
  have Hv := Lib.hid hv1
  have Hq := Lib.hid hq1
  have Hwa := Lib.hid hwa
  have Hxb := Lib.hid hxb
  have Hcell := Lib.hid hcell
  have Hqv := Lib.hid hqv
  have Ha1 := Lib.hid ha1
  have Ha2 := Lib.hid ha2
  have Hm := Lib.hid hm
  have Hun : Hid (uval (uleb n) % M64 = n) := by show _ = _; rw [uval_uleb]; exact Nat.mod_eq_of_lt (by unfold M64; omega)
  clear hv hv1 hq hq1 hwa hbx hxb hcell hqv ha1 ha2 hm hum hr1 hr2 hr3 hroom
  have hm0 : ((((m + 1 : Nat) : Int)) == 0) = false := by rw [beq_eq_false_iff_ne]; omega
  have hm1 : (((m : Int) + 1) == 0) = false := by rw [beq_eq_false_iff_ne]; omega
  go_enter Try.func127, Try.ntmps127
  go_upto_region 1 with fail
  rw [← Hwa.out, ← Hxb.out]
  go_upto_region 4 with (go_at_call 69; go_must (refine (BufLen_any bb bv bl off (m + 1) rd _ Hv.out.buf Hm.out).mono ?_); rintro e w1 ⟨rfl, n1, hw1⟩; have F1 : Hid (Fr [] wa w1) := (by rw [hw1]; exact (Fr.refl [] wa).drewN n1); clear hw1)
  have Hv1 := Lib.hid (Hv.out.call F1.out)
  have Hq1 := Lib.hid (Hq.out.fr (.of0 F1.out))
  have Hbx1 := Lib.hid (F1.out.get Hbx.out (by simp))
  have d2 : w1.cell? ⟨cb, 2, none⟩ = some (.slice ka k.length kc) := Hv1.out.cell 2
  have z2 := Hv1.out.free 2
  have hv2 := Hv1.out.nilS (Fr.refl [] w1)
  have ft2 : FrT TI w1 (w1.setCell ⟨cb, 2, none⟩ (.slice ka 0 kc)) := cx_set Hv1.out.blk 2 _
  have hq2 := Hq1.out.fr ft2
  have hbx2 : (w1.setCell ⟨cb, 2, none⟩ (.slice ka 0 kc)).heap[xb]? = _ := blk_set_other (g := cb) (i := 2) (u := .slice ka 0 kc) Hbx1.out (by rintro rfl; have h1 := Hbx1.out; rw [Hv1.out.blk] at h1; simp at h1)
  have c02 : (w1.setCell ⟨cb, 2, none⟩ (.slice ka 0 kc)).cell? ⟨cb, 0, none⟩ = some (.pointer (some ⟨bb, 0, none⟩)) := hv2.cell 0
  have Hv2 := Lib.hid hv2
  have Hq2 := Lib.hid hq2
  have Hbx2 := Lib.hid hbx2
  clear hv2 hq2 hbx2 ft2 c0 hm0 hm1
  have hle : (0 : Int) ≤ (k.length : Int) := by omega
  have d0 : w1.cell? ⟨cb, 0, none⟩ = some (.pointer (some ⟨bb, 0, none⟩)) := Hv1.out.cell 0
  go_upto_region 5 with fail
  generalize w1.setCell ⟨cb, 2, none⟩ (.slice ka 0 kc) = w2 at *
  clear d0 d2 z2
  go_wp2_with (go_at_call 76; go_must (refine (ReadByte_y bb bv bl off rd _ 147 (D.code.drop p1) Hv2.out.buf (Hv2.out.hp Ha1.out)).mono ?_); rintro e w3 ⟨rfl, hb3, hf3⟩; have Hv3 := Lib.hid (Hv2.out.past Ha1.out (n := 1) rfl hb3 hf3); have Hq3 := Lib.hid (Hq2.out.fr (FrT.of hf3 (fun i hi _ => by simp at hi; subst hi; exact ⟨_, by simp, btype_of Hv2.out.buf.1, btype_of hb3.1⟩))); have Hbx3 := Lib.hid (hf3.get Hbx2.out (by simp; rintro rfl; have h1 := Hbx2.out; rw [Hv2.out.buf.1] at h1; simp at h1)); have c03 : w3.cell? ⟨cb, 0, none⟩ = some (.pointer (some ⟨bb, 0, none⟩)) := Hv3.out.cell 0; clear hb3 hf3 c02)
  have hnw : IntKind.i64.wrap (n : Int) = (n : Int) := IntWalk.i64_in _ (by omega)
  go_upto_region 13 with (go_at_call 33; go_must (refine (lDecU_any bb bv bl (off + 1) true _ Hv3.out.buf (uleb n) (D.code.drop p') (Hv3.out.hp Ha2.out) (uleb_ended n) (uleb_le10 (by omega))).mono ?_); rw [Hun.out]; rintro e w4 ⟨rfl, hb4, hf4⟩; have Hv4 := Lib.hid (Hv3.out.past Ha2.out (n := (uleb n).length) rfl hb4 hf4); have Hq4 := Lib.hid (Hq3.out.fr (FrT.of hf4 (fun i hi _ => by simp at hi; subst hi; exact ⟨_, by simp, btype_of Hv3.out.buf.1, btype_of hb4.1⟩))); have Hbx4 := Lib.hid (hf4.get Hbx3.out (by simp; rintro rfl; have h1 := Hbx3.out; rw [Hv3.out.buf.1] at h1; simp at h1)); clear hb4 hf4 c03)
  have x0 : w4.cell? ⟨xb, 0, none⟩ = some (vi q.size) := blk_cell Hbx4.out 0
  have zx := blk_free Hbx4.out 0
  have Hv5 := Lib.hid (Hv4.out.pokeQ Hbx4.out Hqv.out hge (i := 0) (vi (n : Int)))
  have Hq5 := Lib.hid (Hq4.out.fr ((FrT.refl TI w4).setCell (i := 0) Hbx4.out (by simp) (vi (n : Int))))
  have Hbx5 : Hid ((w4.setCell ⟨xb, 0, none⟩ (vi (n : Int))).heap[xb]? = some (.cells #[vi (n : Int), .int .u8 q.kind, .int .u64 (um : Int), .slice ba bn bc] 133 (0, 0))) := blk_set Hbx4.out 0 (vi (n : Int))
  go_upto_region 14 with fail
  clear x0 zx hnw
  generalize w4.setCell ⟨xb, 0, none⟩ (vi (n : Int)) = w5 at *
  have d3 : w5.cell? ⟨cb, 3, none⟩ = some (.slice qa ps.length qc) := Hv5.out.cell 3
  have z3 := Hv5.out.free 3
  have e0 : w5.cell? ⟨xb, 0, none⟩ = some (vi (n : Int)) := blk_cell Hbx5.out 0
  have e1 : w5.cell? ⟨xb, 1, none⟩ = some (.int .u8 q.kind) := blk_cell Hbx5.out 1
  have e2 : w5.cell? ⟨xb, 2, none⟩ = some (.int .u64 (um : Int)) := blk_cell Hbx5.out 2
  have e3 : w5.cell? ⟨xb, 3, none⟩ = some (.slice ba bn bc) := blk_cell Hbx5.out 3
  have d3a : ∀ o, (w5.alloc o).drew.cell? ⟨cb, 3, none⟩ = some (.slice qa ps.length qc) := fun o => (((Fr.refl [] w5).alloc o).drew).cell d3 (by simp)
  have SZ := Hv5.out.fr.size
  go_region_law ((go_must (refine step_app4 sliceOP _ (by rfl) _ _ (by rfl) D.W.heap.size _ ps.length (ocells qs) (by rfl) (Hv5.out.oq (by first | exact ((Fr.refl [] _).alloc _) | exact ((Fr.refl [] _).alloc _).drew | exact ((Fr.refl [] _).drew).alloc _)) (some ⟨w5.heap.size, 0, none⟩) 1 1 [vi (n : Int), .int .u8 q.kind, .int .u64 (um : Int), .slice ba bn bc] (by rfl) (by rfl) (fun h => by cases h) (by first | exact news_blk (blk_new w5 _) | exact news_blk (blk_new w5.drew _)) (by simp [Value.oneCell']) (by omega) (by decide) (by simp; omega) ?_); intro a8 c8' w8 ho8 hf8 hg8 ht8; have HP := Lib.hid (Hv5.out.pushedQ (by first | exact ((Fr.refl [] _).alloc _) | exact ((Fr.refl [] _).alloc _).drew | exact ((Fr.refl [] _).drew).alloc _) hf8 ht8 (r := r) Hq5.out (by rw [Hcell.out]; exact ho8)); have hb8 := Hv5.out.appQ (by first | exact ((Fr.refl [] _).alloc _) | exact ((Fr.refl [] _).alloc _).drew | exact ((Fr.refl [] _).drew).alloc _) ht8; have s2 : w8.cell? ⟨cb, 3, none⟩ = some (.slice qa ps.length qc) := blk_cell hb8 3; have z2 : w8.frozen? ⟨cb, 3, none⟩ = false := blk_free hb8 3; clear ho8 hf8 hg8 ht8 hb8))
  all_goals
    go_wp2_with fail
    go_ret
    exact ⟨rfl, HP.out⟩
end Go.Proofs.Ytahohmdfllgedaa

namespace Go.Proofs.Ytahohmdfllgedaa
open Go.RowKit

/-- What stands behind closeLoc, whatever of it is known. -/
def RetP (R : World → Prop) (e : Ending) (w' : World) : Prop := e = .returned .nilIface ∧ R w'

set_option maxRecDepth 100000 in
set_option maxHeartbeats 4000000 in
theorem oreg_any (D : CxD) (cb : Nat) (w : World) (k : List Int) (ps : List LPiece) (p op j : Nat) (R : World → Prop) (h : CxR D cb w k ps p) (hj : op = 80 + j) (h2 : op < 112)
    (hcl : ∀ w' opc, CxR D cb w' k ps p → Calls Try.prog 127 #[.pointer (some ⟨cb, 0, none⟩), .int .u8 opc, .agg #[vi 0, .int .u8 1, .int .u64 (j : Int), .slice none 0 0]] w' (RetP R)) :
    Calls Try.prog 105 #[.int .u8 (op : Int), .pointer (some ⟨cb, 0, none⟩)] w (RetP R) := by
  have H := Lib.hid h
  have Hcl := Lib.hid hcl
  clear h hcl
  subst hj
  have q1 : ((((80 + j : Nat) : Int)) == 144) = false := by rw [beq_eq_false_iff_ne]; omega
  have q2 : (80 + (j : Int) == 144) = false := by rw [beq_eq_false_iff_ne]; omega
  have q3 : 80 + (j : Int) - 80 = (j : Int) := by omega
  have q4 : ((80 + j : Nat) : Int) - 80 = (j : Int) := by omega
  have q5 : IntKind.u8.wrap (80 + (j : Int) - 80) = (j : Int) := by rw [q3, IntKind.wrap_u8]; omega
  have q6 : IntKind.u8.wrap (((80 + j : Nat) : Int) - 80) = (j : Int) := by rw [q4, IntKind.wrap_u8]; omega
  have q7 : IntKind.u64.wrap (j : Int) = (j : Int) := by rw [IntKind.wrap_u64]; omega
  go_enter Try.func105, Try.ntmps105
  go_wp2_with (go_at_call 127; go_must (refine (Hcl.out _ _ H.out).mono ?_); rintro e w9 ⟨rfl, hr9⟩; have HR9 := Lib.hid hr9; clear hr9)
  go_wp2_with fail
  go_ret
  exact ⟨rfl, HR9.out⟩

set_option maxRecDepth 100000 in
set_option maxHeartbeats 4000000 in
theorem oregx_any (D : CxD) (cb : Nat) (w : World) (k : List Int) (ps : List LPiece) (p p' n : Nat) (R : World → Prop) (h : CxR D cb w k ps p) (ha : AtC D p (uleb n) p') (hn : n < 18446744073709551616)
    (hcl : ∀ w' opc, CxR D cb w' k ps p' → Calls Try.prog 127 #[.pointer (some ⟨cb, 0, none⟩), .int .u8 opc, .agg #[vi 0, .int .u8 1, .int .u64 (n : Int), .slice none 0 0]] w' (RetP R)) :
    Calls Try.prog 105 #[.int .u8 144, .pointer (some ⟨cb, 0, none⟩)] w (RetP R) := by
  have Hcl := Lib.hid hcl
  clear hcl
  obtain ⟨bb, bv, bl, off, rd, kv, qv, qs, hv⟩ := h
  obtain ⟨ka, kc, rfl⟩ := own_slice hv.own
  have c2 : w.cell? ⟨cb, 2, none⟩ = some (.slice ka k.length kc) := hv.cell 2
  have f2 := hv.free 2
  have Hv := Lib.hid hv
  have SZ := hv.fr.size
  have c0 : w.cell? ⟨cb, 0, none⟩ = some (.pointer (some ⟨bb, 0, none⟩)) := hv.cell 0
  have Ha := Lib.hid ha
  have Hun : Hid (uval (uleb n) % M64 = n) := by show _ = _; rw [uval_uleb]; exact Nat.mod_eq_of_lt (by unfold M64; exact hn)
  have Hn := Lib.hid hn
  clear hv ha hn
  go_enter Try.func105, Try.ntmps105
  go_wp2_with (first | (go_at_call 33; go_must (refine (lDecU_any bb bv bl off rd _ Hv.out.buf (uleb n) (D.code.drop p') (Hv.out.hp Ha.out) (uleb_ended n) (uleb_le10 Hn.out)).mono ?_); rw [Hun.out]; rintro e w1 ⟨rfl, hb1, hf1⟩; have hv1 := Hv.out.past Ha.out (n := (uleb n).length) (rfl) hb1 hf1; have Hv1 := Lib.hid hv1; have d2 : w1.cell? ⟨cb, 2, none⟩ = some (.slice ka k.length kc) := hv1.cell 2; have d6 : w1.cell? ⟨cb, 6, none⟩ = some (vi D.cfa) := hv1.cell 6; have d7 : w1.cell? ⟨cb, 7, none⟩ = some (vi D.base) := hv1.cell 7; have d5 : w1.cell? ⟨cb, 5, none⟩ = some (.int .u64 0) := hv1.cell 5; have x2 := hv1.free 2; have SZ1 := hv1.fr.size; clear hb1 hf1 hv1) | (go_at_call 127; go_must (refine (Hcl.out _ _ ⟨_, _, _, _, _, _, _, _, Hv1.out⟩).mono ?_); rintro e w9 ⟨rfl, hr9⟩; have HR9 := Lib.hid hr9; clear hr9))
  go_wp2_with fail
  go_ret
  exact ⟨rfl, HR9.out⟩

set_option maxRecDepth 100000 in
set_option maxHeartbeats 4000000 in
theorem ostackvalue_any (D : CxD) (cb : Nat) (w : World) (k : List Int) (ps : List LPiece) (p : Nat) (y : Int) (um : Nat) (R : World → Prop) (h : CxR D cb w (k ++ [y]) ps p) (hk : k.length ≤ 1000000) (hum : IntKind.u64.wrap y = (um : Int))
    (hcl : ∀ w' opc, CxR D cb w' k ps p → Calls Try.prog 127 #[.pointer (some ⟨cb, 0, none⟩), .int .u8 opc, .agg #[vi 0, .int .u8 2, .int .u64 (um : Int), .slice none 0 0]] w' (RetP R)) :
    Calls Try.prog 111 #[.int .u8 159, .pointer (some ⟨cb, 0, none⟩)] w (RetP R) := by
  have Hcl := Lib.hid hcl
  clear hcl
  obtain ⟨bb, bv, bl, off, rd, kv, qv, qs, hv⟩ := h
  have hl : (k ++ [y]).length = k.length + 1 := by simp
  obtain ⟨g, kc, rfl, hk1, hk2, hc⟩ := own_vis hv.own (by omega)
  have c2 : w.cell? ⟨cb, 2, none⟩ = some (.slice (some ⟨g, 0, none⟩) (k.length + 1) kc) := by have := hv.cell 2; rw [hl] at this; exact this
  have f2 := hv.free 2
  have cx : w.cell? ⟨g, k.length, none⟩ = some (vi y) := by rw [hc k.length (by omega)]; simp
  rw [hl] at hv
  have Hv := Lib.hid hv
  have SZ := hv.fr.size
  unfold maxLen at hk2
  rw [hl] at hk1
  have e1 : IntKind.i64.wrap (k.length : Int) = (k.length : Int) := IntWalk.i64_in _ (by omega)
  have e2 : (0 : Int) ≤ (k.length : Int) := by omega
  have e3 : (k.length : Int) ≤ (kc : Int) := by omega
  have e5 : (k.length : Int) < (k.length : Int) + 1 := by omega
  have q0 : ¬ ((k.length : Int) + 1 < 1) := by omega
  clear hc hl
  clear hv
  have HC : Hid (∀ n, CxR D cb ((w.drewN n).setCell ⟨cb, 2, none⟩ (.slice (some ⟨g, 0, none⟩) k.length kc)) k ps p) := fun n => ⟨_, _, _, _, _, _, _, _, Hv.out.cutL ((Fr.refl _ _).drewN _) (by simp)⟩
  go_enter Try.func111, Try.ntmps111
  go_wp2_with fail
  go_quiet (fail)
  go_wp2_with fail
  go_region_law (fail)
  all_goals
    go_wp2_with (go_at_call 127; go_must (refine (Hcl.out _ _ (HC.out _)).mono ?_); rintro e w9 ⟨rfl, hr9⟩; have HR9 := Lib.hid hr9; clear hr9)
    go_wp2_with fail
    go_ret
    exact ⟨rfl, HR9.out⟩

set_option maxRecDepth 100000 in
set_option maxHeartbeats 4000000 in
theorem opiece_any (D : CxD) (cb : Nat) (w : World) (k : List Int) (ps : List LPiece) (p p' n : Nat) (y : Int) (um : Nat) (h : CxR D cb w [y] ps p) (hps : ps.length ≤ 1000000) (ha : AtC D p (uleb n) p') (hn : n < 9223372036854775808) (hum : IntKind.u64.wrap y = (um : Int)) (hum2 : u64of y = um) :
    Calls Try.prog 108 #[.int .u8 147, .pointer (some ⟨cb, 0, none⟩)] w (OkP D cb [] (ps ++ [⟨0, y, (n : Int), [], false⟩]) p') := by
  obtain ⟨k, hk⟩ : ∃ k : List Int, k = [] := ⟨[], rfl⟩
  have e0 : [y] = k ++ [y] := by rw [hk]; rfl
  have hkl : k.length = 0 := by rw [hk]; rfl
  rw [e0] at h
  obtain ⟨bb, bv, bl, off, rd, kv, qv, qs, hv⟩ := h
  obtain ⟨g, kc, rfl, hk1, hk2, hc⟩ := own_vis hv.own (by simp)
  have hl : (k ++ [y]).length = 1 := by simp [hkl]
  have cx : w.cell? ⟨g, 0, none⟩ = some (vi y) := by rw [hc 0 (by omega)]; simp [hk]
  rw [hl] at hv hk1
  obtain ⟨qa, qc, rfl⟩ := own_slice hv.pcs
  have c0 : w.cell? ⟨cb, 0, none⟩ = some (.pointer (some ⟨bb, 0, none⟩)) := hv.cell 0
  have SZ := hv.fr.size
  unfold maxLen at hk2
  have Hv := Lib.hid hv
  have Ha := Lib.hid ha
  have hge : 1 ≤ kc := hk1
  have hnw : IntKind.i64.wrap (n : Int) = (n : Int) := IntWalk.i64_in _ (by omega)
  have Hhum2 := Lib.hid hum2
  have e3 : (0 : Int) ≤ (kc : Int) := by omega
  have Hk := Lib.hid hk
  have Hun : Hid (uval (uleb n) % M64 = n) := by show _ = _; rw [uval_uleb]; exact Nat.mod_eq_of_lt (by unfold M64; omega)
  have Hn := Lib.hid hn
  clear hv ha hc hl hk hkl hum2 e0 hk1 hn
  go_enter Try.func108, Try.ntmps108
  go_wp2_with (go_at_call 33; go_must (refine (lDecU_any bb bv bl off rd _ Hv.out.buf (uleb n) (D.code.drop p') (Hv.out.hp Ha.out) (uleb_ended n) (uleb_le10 (by have := Hn.out; omega))).mono ?_); rw [Hun.out]; rintro e w1 ⟨rfl, hb1, hf1⟩; have hv1 := Hv.out.past Ha.out (n := (uleb n).length) rfl hb1 hf1; have Hv1 := Lib.hid hv1; have d2 : w1.cell? ⟨cb, 2, none⟩ = some (.slice (some ⟨g, 0, none⟩) 1 kc) := hv1.cell 2; have d3 : w1.cell? ⟨cb, 3, none⟩ = some (.slice qa ps.length qc) := hv1.cell 3; have z2 := hv1.free 2; have z3 := hv1.free 3; have SZ1 := hv1.fr.size; have dx : w1.cell? ⟨g, 0, none⟩ = some (vi y) := hf1.cell cx (by have := Hv.out.kv_ne.2; simp [Value.ownBlock] at this; simpa using this); clear hb1 hf1 hv1)
  go_quiet (fail)
  go_wp2_with (at_builtin; go_must (refine wpList_app4 sliceOP _ rfl _ _ rfl D.W.heap.size _ ps.length (ocells qs) rfl (Hv1.out.oq (by first | exact ((Fr.refl [] _).alloc _) | exact ((Fr.refl [] _).alloc _).drew | exact ((Fr.refl [] _).drew).alloc _ | exact (((Fr.refl [] _).drewN _).alloc _) | exact (((Fr.refl [] _).alloc _).drewN _))) (some ⟨w1.heap.size, 0, none⟩) 1 1 [vi (n : Int), .int .u8 0, .int .u64 (um : Int), .slice none 0 0] rfl rfl (fun h => by cases h) (news_blk (blk_new _ _)) (by simp [Value.oneCell']) (by omega) (by decide) (by simp; omega) ?_); intro a8 c8' w8 ho8 hf8 hg8 ht8; have HP := Lib.hid (Hv1.out.pushedQV (by first | exact ((Fr.refl [] _).alloc _) | exact ((Fr.refl [] _).alloc _).drew | exact ((Fr.refl [] _).drew).alloc _ | exact (((Fr.refl [] _).drewN _).alloc _) | exact (((Fr.refl [] _).alloc _).drewN _)) hf8 ht8 (r := ⟨0, y, (n : Int), [], false⟩) (bvr := .slice none 0 0) (.inr ⟨by simp, rfl⟩) (by rw [ocell, Hhum2.out]; exact ho8)); have hb8 := Hv1.out.appQ (by first | exact ((Fr.refl [] _).alloc _) | exact ((Fr.refl [] _).alloc _).drew | exact ((Fr.refl [] _).drew).alloc _ | exact (((Fr.refl [] _).drewN _).alloc _) | exact (((Fr.refl [] _).alloc _).drewN _)) ht8; have s3 : w8.cell? ⟨cb, 3, none⟩ = some (.slice qa ps.length qc) := blk_cell hb8 3; have zz3 : w8.frozen? ⟨cb, 3, none⟩ = false := blk_free hb8 3; have s2 : w8.cell? ⟨cb, 2, none⟩ = some (.slice (some ⟨g, 0, none⟩) 1 kc) := blk_cell hb8 2; have zz2 : w8.frozen? ⟨cb, 2, none⟩ = false := blk_free hb8 2; clear ho8 hf8 hg8 ht8 hb8)
  go_ret
  exact ⟨rfl, _, _, _, _, _, _, _, _, HP.out.nilS (Fr.refl [] _)⟩

set_option maxRecDepth 100000 in
set_option maxHeartbeats 4000000 in
theorem oaddr_any (D : CxD) (cb : Nat) (w : World) (k : List Int) (ps : List LPiece) (p p' z : Nat) (bs : List UInt8) (h : CxR D cb w k ps p) (hk : k.length ≤ 1000000) (ha : AtC D p bs p') (hbl : bs.length = 8) (hz : leval bs = z) :
    Calls Try.prog 88 #[.int .u8 3, .pointer (some ⟨cb, 0, none⟩)] w (OkP D cb (k ++ [wrap64 (z : Int)]) ps p') := by
  obtain ⟨bb, bv, bl, off, rd, kv, qv, qs, hv⟩ := h
  obtain ⟨ka, kc, rfl⟩ := own_slice hv.own
  have c2 : w.cell? ⟨cb, 2, none⟩ = some (.slice ka k.length kc) := hv.cell 2
  have f2 := hv.free 2
  have Hv := Lib.hid hv
  have SZ := hv.fr.size
  have c0 : w.cell? ⟨cb, 0, none⟩ = some (.pointer (some ⟨bb, 0, none⟩)) := hv.cell 0
  have Ha := Lib.hid ha
  have c4 : w.cell? ⟨cb, 4, none⟩ = some (vi 8) := hv.cell 4
  have Hrm : Hid (off + 8 ≤ bl.length) := by have := hv.room ha; rw [hbl] at this; exact this
  have Hpos : Hid (0 < bl.length) := by have := Hrm.out; show _ < _; omega
  have Htk : Hid ((bl.drop off).take 8 = bs) := hv.tk ha hbl
  have Hbl := Lib.hid hbl
  have Hz := Lib.hid hz
  have HLV : Hid (leval bs < 18446744073709551616) := by have := leval_lt bs; rw [hbl] at this; exact this
  have zb : z < 18446744073709551616 := by rw [← hz]; exact HLV.out
  have hw0 : IntKind.u64.wrap (z : Int) = (z : Int) := by rw [IntKind.wrap_u64]; omega
  have hw1 : IntKind.i64.wrap (z : Int) = wrap64 (z : Int) := IntWalk.i64_left _
  have HB0 : Hid (∀ w', Fr [] w w' → w'.cell? ⟨cb, 0, none⟩ = some (.pointer (some ⟨bb, 0, none⟩)) ∧ w'.cell? ⟨cb, 4, none⟩ = some (vi 8)) := fun w' f => ⟨f.cell c0 (by simp), f.cell c4 (by simp)⟩
  clear hv ha hbl hz
  go_enter Try.func88, Try.ntmps88
  go_wp2_with fail
  go_region_held3 (fun w' => w'.cell? ⟨cb, 0, none⟩ = some (.pointer (some ⟨bb, 0, none⟩)) ∧ w'.cell? ⟨cb, 4, none⟩ = some (vi 8)) (first | exact HB0.out _ (Fr.refl [] w).drew | exact ⟨E0.out.1, E0.out.2⟩)
    ((go_at_call 115; refine (BufNext_any bb bv bl off 8 rd _ (Hv.out.call (Fr.refl [] w).drew).buf Hrm.out Hpos.out).mono ?_; rw [Htk.out]; rintro e w1 ⟨⟨a1, k1, rfl, hs1, hg1⟩, hb1, hf1⟩; have Hv1 := Lib.hid ((Hv.out.call (Fr.refl [] w).drew).past Ha.out (n := 8) Hbl.out hb1 hf1); have Hs1 := Lib.hid hs1; have Hg1 := Lib.hid hg1; have E0 : Hid (w1.cell? ⟨cb, 0, none⟩ = some (.pointer (some ⟨bb, 0, none⟩)) ∧ w1.cell? ⟨cb, 4, none⟩ = some (vi 8)) := ⟨Hv1.out.cell 0, Hv1.out.cell 4⟩; clear hb1 hf1 hs1 hg1))
  have Hlt1 : Hid (∀ g, (Value.slice a1 8 k1).ownBlock = some g → g < w1.heap.size) := fun g hg => Nat.lt_of_lt_of_le (Hv1.out.bD g (Hg1.out g hg)) Hv1.out.fr.size
  have HB1 : Hid (∀ w', Fr [] w1 w' → w'.cell? ⟨cb, 4, none⟩ = some (vi 8)) := fun w' f => f.cell E0.out.2 (by simp)
  go_wp2_with fail
  go_region_held3 (fun w' => w'.cell? ⟨cb, 4, none⟩ = some (vi 8)) (first | exact HB1.out _ (Fr.refl [] w1).drew | exact HB1.out _ F3.out | exact HB1.out _ F2.out)
    ((first | (go_at_call 124; have _t := F2; refine (ReadUintRaw_8 false w1.heap.size (.slice a1 8 k1) bs 0 _ HR2.out (by rw [Hbl.out]; decide) (by have := Hsz2.out; omega) (fun g hg => by have := Hlt1.out g hg; have := Hsz2.out; omega)).mono ?_; rw [List.drop_zero, List.take_of_length_le (by rw [Hbl.out]; decide), Hz.out]; rintro e w3 ⟨rfl, hb3, hf3⟩; have F3 : Hid (Fr [] w1 w3) := F2.out.trans hf3 (fun i hi hlt => by simp at hi; subst hi; omega); clear hb3 hf3)
            | (go_at_call 119; refine (NewReader_any _ _ _ _).mono ?_; rintro e w2 ⟨rfl, hw2⟩; have F2 : Hid (Fr [] w1 w2) := (by rw [hw2]; exact ((Fr.refl [] w1).drew).alloc _); have HR2 : Hid (SrcR false w2 w1.heap.size (.slice a1 8 k1) bs 0) := (by rw [hw2]; exact RdrR_new (w := w1.drew) (Hs1.out.fr (Fr.refl [] w1).drew (by simp)) Hlt1.out (by rw [Hbl.out]; decide)); have Hsz2 : Hid (w2.heap.size = w1.heap.size + 1) := (by rw [hw2]; simp [Hid]); clear hw2)))
  all_goals
    have Hv3 := Lib.hid (Hv1.out.call F3.out)
    have d2 : w3.cell? ⟨cb, 2, none⟩ = some (.slice ka k.length kc) := Hv3.out.cell 2
    have d5 : w3.cell? ⟨cb, 5, none⟩ = some (.int .u64 0) := Hv3.out.cell 5
    have x2 := Hv3.out.free 2
    have SZ3 := Hv3.out.fr.size
    have d2a : ∀ o, (w3.alloc o).drew.cell? ⟨cb, 2, none⟩ = some (.slice ka k.length kc) := fun o => (((Fr.refl [] w3).alloc o).drew).cell d2 (by simp)
    have d5a : ∀ o, (w3.alloc o).drew.cell? ⟨cb, 5, none⟩ = some (.int .u64 0) := fun o => (((Fr.refl [] w3).alloc o).drew).cell d5 (by simp)
    go_wp2_with fail
    go_region_law ((go_must (refine step_app4 sliceI64 _ (by rfl) _ _ (by rfl) D.W.heap.size _ k.length (vis k) (by rfl) (Hv3.out.ow (by first | exact ((Fr.refl [] _).alloc _) | exact ((Fr.refl [] _).alloc _).drew | exact ((Fr.refl [] _).drew).alloc _ | exact (((Fr.refl [] _).drewN _).alloc _) | exact ((((Fr.refl [] _).drewN _).alloc _).drew) | exact ((((Fr.refl [] _).drewN _).drew).alloc _))) (some ⟨w3.heap.size, 0, none⟩) 1 1 [_] (by rfl) (by rfl) (fun h => by cases h) (by first | exact news_blk (blk_new w3 _) | exact news_blk (blk_new w3.drew _)) (by simp [Value.oneCell']) (by omega) (by decide) (by simp; omega) ?_); intro a8 c8' w8 ho8 hf8 hg8 ht8; have HP := Lib.hid (Hv3.out.pushed (by first | exact ((Fr.refl [] _).alloc _) | exact ((Fr.refl [] _).alloc _).drew | exact ((Fr.refl [] _).drew).alloc _ | exact (((Fr.refl [] _).drewN _).alloc _) | exact ((((Fr.refl [] _).drewN _).alloc _).drew) | exact ((((Fr.refl [] _).drewN _).drew).alloc _)) hf8 ht8 ho8); have hb8 := Hv3.out.app (by first | exact ((Fr.refl [] _).alloc _) | exact ((Fr.refl [] _).alloc _).drew | exact ((Fr.refl [] _).drew).alloc _ | exact (((Fr.refl [] _).drewN _).alloc _) | exact ((((Fr.refl [] _).drewN _).alloc _).drew) | exact ((((Fr.refl [] _).drewN _).drew).alloc _)) ht8; have s2 : w8.cell? ⟨cb, 2, none⟩ = some (.slice ka k.length kc) := blk_cell hb8 2; have z2 : w8.frozen? ⟨cb, 2, none⟩ = false := blk_free hb8 2; clear ho8 hf8 hg8 ht8 hb8))
    all_goals
      go_wp2_with fail
      go_ret
      exact ⟨rfl, HP.out⟩
end Go.Proofs.Ytahohmdfllgedaa

namespace Go.Proofs.Ytahohmdfllgedaa
open Go.RowKit

/-! ### plain -/
theorem iwrap16 (z : Int) : IntKind.i16.wrap z = (z + 32768) % 65536 - 32768 := by simp only [IntKind.wrap, IntKind.bits, IntKind.signed]; simp; omega
theorem iwrap8 (z : Int) : IntKind.i8.wrap z = (z + 128) % 256 - 128 := by simp only [IntKind.wrap, IntKind.bits, IntKind.signed]; simp; omega
theorem leL_1 (n : Nat) : leL n 1 = [UInt8.ofNat (n % 256)] := rfl
theorem leval_u64 (a : Int) (j : Nat) : leval (leL (u64of a) j) = u64of a % 256 ^ j := leval_leL j (u64of a)
theorem u64of_pos {a : Int} (h : 0 ≤ a) (h2 : a < 18446744073709551616) : u64of a = a.toNat := by unfold u64of; rw [Int.emod_eq_of_lt h h2]

theorem doS_loc {x : LWorld} {c : LCall} {s : LSt} {q : LPiece} (hq : s.loc = some q) (h : c.op ≠ 147) : (doS x c s).left = true := by
  unfold doS
  rw [if_pos ⟨by rw [hq]; rfl, h⟩]; rfl
theorem doS_piece {x : LWorld} {c : LCall} {s : LSt} (h : c.op = 147) : doS x c s = pieceS c.a s := by
  unfold doS
  simp [h]
/-- Behind a location: the end, or a piece. -/
theorem place_next {x : LWorld} {l : List LCall} {fuel k : Nat} {s : LSt} {o : Out} {q : LPiece} (h : RunR x l fuel k s o) (hq : s.loc = some q) (hk : k ≤ l.length) :
    (k = l.length ∧ s.pieces = []) ∨ (∃ f, ∃ hk : k < l.length, fuel = f + 1 ∧ l[k].op = 147 ∧ RunR x l f (k + 1) { s with left := false, pieces := s.pieces ++ [{ pieceOf l[k].a q with size := l[k].a }], loc := none } o) := by
  by_cases hlt : k < l.length
  · right
    have hr := h.run
    cases fuel with
    | zero => rw [runS_zero hlt] at hr; exact absurd hr.symm h.nl
    | succ f =>
      refine ⟨f, hlt, rfl, ?_⟩
      rw [runS_succ hlt] at hr
      have hs : (stepS x l[k] (k + 1) s).2.left = true ∨ (l[k].op = 147 ∧ stepS x l[k] (k + 1) s = (((k + 1 : Nat) : Int), pieceS l[k].a s)) := by
        by_cases h1 : l[k].op = 40 ∨ l[k].op = 47
        · left
          unfold stepS
          rw [if_pos ⟨by rw [hq]; rfl, h1⟩]; rfl
        · have h40 : l[k].op ≠ 40 := fun e => h1 (.inl e)
          have h47 : l[k].op ≠ 47 := fun e => h1 (.inr e)
          have e : stepS x l[k] (k + 1) s = (((k + 1 : Nat) : Int), doS x l[k] s) := by simp [stepS, h1, jumpS, h40, h47]
          by_cases h2 : l[k].op = 147
          · right; exact ⟨h2, by rw [e, doS_piece h2]⟩
          · left; rw [e]; exact doS_loc hq h2
      rcases hs with hs | ⟨hop, hs⟩
      · rw [if_pos hs] at hr; exact absurd hr.symm h.nl
      · rw [hs] at hr
        by_cases hl : (pieceS l[k].a s).left = true
        · simp only [hl, if_true] at hr; exact absurd hr.symm h.nl
        · have hl' : (pieceS l[k].a s).left = false := by simpa using hl
          have e : pieceS l[k].a s = { s with left := false, pieces := s.pieces ++ [{ pieceOf l[k].a q with size := l[k].a }], loc := none } := by
            unfold pieceS at hl' ⊢
            by_cases h0 : l[k].a = 0
            · rw [if_pos h0] at hl'; cases hl'
            · rw [if_neg h0] at hl' ⊢
              simp only [hq] at hl' ⊢
              rw [hl']
          have hb : ({ s with left := false, pieces := s.pieces ++ [{ pieceOf l[k].a q with size := l[k].a }], loc := none } : LSt).bad = false := h.bad
          rw [e] at hr
          have hb2 := h.bad
          simp only [hb2, Bool.false_eq_true, if_false] at hr
          refine ⟨hop, ⟨by rw [hb2]; exact hr, h.nl, rfl, h.bad, ?_, ?_⟩⟩
          · have := h.l1; show s.stack.length + _ ≤ _; omega
          · have := h.l2; show (s.pieces ++ _).length + _ ≤ _; simp; omega
  · left
    have hkl : k = l.length := by omega
    have hr := h.run
    rw [runS_end hlt] at hr
    obtain ⟨-, h3⟩ := finish_fine hr h.nl
    rcases h3 with ⟨h3, -⟩ | ⟨-, h3⟩
    · rw [hq] at h3; cases h3
    · exact ⟨hkl, h3⟩
/-- Behind a jump. -/
theorem RunR.jump {x : LWorld} {l : List LCall} {fuel k : Nat} {s s' : LSt} {o : Out} (h : RunR x l (fuel + 1) k s o) (hk : k < l.length) {a : Int} (e : stepS x l[k] (k + 1) s = (a, s')) (hl : s'.left = false) (hb : s'.bad = false) :
    RunR x l fuel a.toNat s' o := by
  have hg := stepS_len x l[k] (k + 1) s
  rw [e] at hg
  have hr := h.run
  rw [runS_succ hk, e] at hr
  simp only [hl, hb, Bool.false_eq_true, if_false] at hr
  exact ⟨hr, h.nl, hl, hb, by have := h.l1; have := hg.1; simp only at this; omega, by have := h.l2; have := hg.2; simp only at this; omega⟩
theorem OB.piece {base : Nat} {w : World} {v : Value} {q : LPiece} (h : OB base w v q) (n : Int) : OB base w v { pieceOf n q with size := n } := by
  unfold pieceOf
  by_cases hs : q.stk = true ∧ n ≤ 8
  · rw [if_pos hs]
    rcases h with ⟨-, h2, -⟩ | ⟨h1, h2⟩
    · rw [hs.1] at h2; cases h2
    · exact .inr ⟨h1, h2⟩
  · rw [if_neg hs]; exact h
theorem pieceOf_kv (n : Int) (q : LPiece) : (pieceOf n q).kind = q.kind ∧ (pieceOf n q).value = q.value := by
  unfold pieceOf; split <;> exact ⟨rfl, rfl⟩

/-! ### the code -/
theorem at_op {D : CxD} {l : List LCall} (hc : D.code = exprL l) {k : Nat} (hk : k < l.length) : AtC D (pl l k) [UInt8.ofNat l[k].op.toNat] (pl l k + 1) := by
  have h1 := expr_drop l k hk
  have h2 := pl_succ l k hk
  have h3 := eSz_pos l[k]
  have h4 : pl l (k + 1) ≤ pl l l.length := pl_mono l (by omega)
  refine ⟨?_, rfl, by rw [hc, exprL_len]; omega⟩
  rw [hc, ← List.drop_drop, h1, eL]
  simp
/-- A location is told: what closeLoc is called with. -/
def ClArg (D : CxD) (cb : Nat) (q : LPiece) (ps : List LPiece) (p : Nat) (R : World → Prop) : Prop :=
  ∀ w' (opc : Int) bvq, CxR D cb w' [] ps p → OB D.W.heap.size w' bvq q → Calls Try.prog 127 #[.pointer (some ⟨cb, 0, none⟩), .int .u8 opc, .agg #[vi q.size, .int .u8 q.kind, .int .u64 ((u64of q.value : Nat) : Int), bvq]] w' (RetP R)
theorem good_place {D : CxD} {x : LWorld} {l : List LCall} {k : Nat} (hk : k < l.length) (hcode : D.code = exprL l) (hkn : ∀ c ∈ l, knownB c.op c.a c.data.length = true) (f op : Nat) (ho : l[k].op = (op : Int)) (h256 : op < 256) (h150 : op ≠ 150) (h1 : op ≠ 40) (h2 : op ≠ 47) (hlut : ∀ w, OplutP f op w)
    (hcf : ∀ a b w, (callFunc f #[a, b]).run Try.prog w = .ok (.enter f #[a, b]) w)
    (hc : ∀ cb w s, CxR D cb w s.stack s.pieces (pl l k + 1) → s.loc = none → s.left = false → s.bad = false → s.stack.length ≤ 4000 → (doS x l[k] s).left = false →
      ((doS x l[k] s).bad = true ∧ Calls Try.prog f #[.int .u8 (op : Int), .pointer (some ⟨cb, 0, none⟩)] w (ErrP D)) ∨
      ((doS x l[k] s).bad = false ∧ ∃ q, doS x l[k] s = { s with stack := [], loc := some q } ∧ ∀ R, ClArg D cb q s.pieces (pl l (k + 1)) R → Calls Try.prog f #[.int .u8 (op : Int), .pointer (some ⟨cb, 0, none⟩)] w (RetP R))) : OpGood D x l k l[k] := by
  refine .inr ⟨f, op, ho, h256, h150, hlut, hcf, fun cb w s fuel o hcx hloc hR => ?_⟩
  obtain ⟨hl, hb⟩ := hR.step hk hloc (by rw [ho]; omega) (by rw [ho]; omega)
  rcases hc cb w s hcx hloc hR.left hR.bad (by have := hR.l1; omega) hl with ⟨h3, h4⟩ | ⟨h3, q, hq, h4⟩
  · rcases hb with ⟨-, hb⟩ | ⟨hb, -⟩
    · exact h4.mono fun e w' h => .inl ⟨hb, h⟩
    · rw [h3] at hb; cases hb
  · rcases hb with ⟨hb, -⟩ | ⟨-, hR2⟩
    · rw [h3] at hb; cases hb
    rw [hq] at hR2
    have hps : s.pieces.length ≤ 4000 := by have := hR.l2; omega
    refine (h4 (fun w' => ∃ f, f ≤ fuel ∧ HeadR D x l cb f o w') ?_).mono fun e w' h => .inr ⟨h.1, h.2⟩
    intro w' opc bvq hcx2 hob
    rcases place_next hR2 rfl (by omega) with ⟨hkl, hpn⟩ | ⟨f2, hk2, rfl, hop, hR3⟩
    · have hcl : D.code.length = pl l (k + 1) := by rw [hcode, exprL_len, hkl]
      simp only at hpn
      rw [← hcl] at hcx2
      refine (closeLoc_end D cb w' [] s.pieces opc q bvq hcx2 (by omega) hob).mono fun e w2 h => ⟨h.1, fuel, Nat.le_refl _, k + 1, _, by omega, hR2, .inr ⟨hkl, q, [], rfl, hpn, ?_⟩⟩
      have h5 := h.2
      rw [hpn, List.nil_append, hcl, hkl] at h5
      exact h5
    · have ha1 := at_op hcode hk2
      rw [hop] at ha1
      have hkr := known_range (hkn _ (List.getElem_mem hk2))
      rw [hop] at hkr
      have hra : 0 ≤ l[k + 1].a ∧ l[k + 1].a < 1048576 := by simpa [knownR] using hkr
      have hua : u64of l[k + 1].a = l[k + 1].a.toNat := u64of_pos hra.1 (by omega)
      have ha2 : AtC D (pl l (k + 1) + 1) (uleb l[k + 1].a.toNat) (pl l (k + 1 + 1)) := atc hcode hk2 (by rw [hop, ← hua]; show eopnd _ _ _ _ ++ [] = _; rw [List.append_nil]; rfl)
      have hkv := pieceOf_kv l[k + 1].a q
      refine (closeLoc_piece D cb w' [] s.pieces _ _ _ l[k + 1].a.toNat opc q { pieceOf l[k + 1].a q with size := l[k + 1].a } bvq hcx2 (by omega) ha1 ha2 (by omega) (hob.piece _) hkv.1 hkv.2 (by show l[k + 1].a = _; omega)).mono fun e w2 h => ⟨h.1, f2, by omega, k + 1 + 1, _, by omega, hR3, .inl ⟨rfl, h.2⟩⟩
end Go.Proofs.Ytahohmdfllgedaa
