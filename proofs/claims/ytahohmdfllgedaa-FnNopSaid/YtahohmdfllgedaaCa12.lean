/- The machine's run: what an operation's contract says; ExecuteStackProgram.
impl.Evaluate's helpers: the deferred closure, registers.
A region that may panic, in a function that defers: behind the panic some slots are as they were. No program in sight.
impl.Evaluate: its boxes, registers, pieces.
What is known of an evaluation's pieces. Plain. -/
import Derived.Test.YtahohmdfllgedaaCa11
import Derived.Deep.CutBlock
import Derived.Defers
import Derived.Recover
import Derived.Orders
import Derived.Deep.RegionWith
import Derived.Test.YtahohmdfllgedaaCa1
import Derived.Test.YtahohmdfllgedaaCa8
set_option linter.unusedVariables false
set_option linter.unusedSimpArgs false
namespace Go.Proofs.Ytahohmdfllgedaa
open Go.RowKit

/-- How an evaluation stands, with so much fuel left, when it comes to o. -/
structure RunR (x : LWorld) (l : List LCall) (fuel k : Nat) (s : LSt) (o : Out) : Prop where
  run : runS x l fuel k s = o
  nl : o ≠ .left
  left : s.left = false
  bad : s.bad = false
  l1 : s.stack.length + 3 * fuel ≤ 4000
  l2 : s.pieces.length + fuel ≤ 4000
/-- At the head of the machine's loop. -/
def HeadR (D : CxD) (x : LWorld) (l : List LCall) (cb fuel : Nat) (o : Out) (w : World) : Prop :=
  ∃ k s, k ≤ l.length ∧ RunR x l fuel k s o ∧
    ((s.loc = none ∧ CxR D cb w s.stack s.pieces (pl l k)) ∨ (k = l.length ∧ ∃ p ks, s.loc = some p ∧ s.pieces = [] ∧ CxR D cb w ks [p] (pl l l.length)))
/-- Behind an operation. -/
def StepP (D : CxD) (x : LWorld) (l : List LCall) (cb fuel : Nat) (o : Out) (e : Ending) (w' : World) : Prop :=
  (o = .bad ∧ ErrP D e w') ∨ (e = .returned .nilIface ∧ ∃ f, f ≤ fuel ∧ HeadR D x l cb f o w')
/-- An operation's contract. -/
def OpGood (D : CxD) (x : LWorld) (l : List LCall) (k : Nat) (c : LCall) : Prop :=
  c.op = 150 ∨ ∃ f op : Nat, c.op = (op : Int) ∧ op < 256 ∧ op ≠ 150 ∧ (∀ w, OplutP f op w) ∧ (∀ a b w, (callFunc f #[a, b]).run Try.prog w = .ok (.enter f #[a, b]) w) ∧
    ∀ cb w s fuel o, CxR D cb w s.stack s.pieces (pl l k + 1) → s.loc = none → RunR x l (fuel + 1) k s o →
      Calls Try.prog f #[.int .u8 (op : Int), .pointer (some ⟨cb, 0, none⟩)] w (StepP D x l cb fuel o)
/-- What the machine answers with. -/
def valP (x : LWorld) (s : LSt) : Int :=
  match resP s with
  | [] => s.stack.getLast?.getD 0
  | [p] => if p.kind = 1 then wrap64 ((x.regs.getD (u64of p.value) 0 : Nat) : Int) else 0
  | _ => 0
def ExecP (D : CxD) (x : LWorld) (o : Out) (e : Ending) (w' : World) : Prop :=
  (o = .bad ∧ ((∃ t u, e = .returned (.tuple #[vi 0, .slice none 0 0, .iface t u])) ∨ (∃ t u, e = .panicked [{ v := .iface t u, recovered := false }])) ∧ Fr [] D.W w') ∨
  (∃ s qv qs, o = .fine s ∧ e = .returned (.tuple #[vi (valP x s), qv, .nilIface]) ∧ Fr [] D.W w' ∧ w'.ownsRow D.W.heap.size 133 4 qv (resP s).length (ocells qs) ∧ qs.map (·.1) = resP s ∧ ∀ q ∈ qs, OB D.W.heap.size w' q.2 q.1)

theorem ExecP.down {D0 D : CxD} {x : LWorld} {o : Out} {e : Ending} {w' : World} (h : ExecP D x o e w') (f : Fr [] D0.W D.W) : ExecP D0 x o e w' := by
  rcases h with ⟨h1, h2, h3⟩ | ⟨s, qv, qs, h1, h2, h3, h4, h5, h6⟩
  · exact .inl ⟨h1, h2, f.then h3⟩
  · refine .inr ⟨s, qv, qs, h1, h2, f.then h3, own_base h4 f.size, h5, fun q hq => ?_⟩
    exact (h6 q hq).imp (fun ⟨a, b, c, d⟩ => ⟨a, b, c, own_base d f.size⟩) id
theorem finish_fine {s : LSt} {o : Out} (h : finishS s = o) (hl : o ≠ .left) : o = .fine s ∧ ((s.loc = none ∧ (s.pieces ≠ [] ∨ s.stack ≠ [])) ∨ (s.loc.isSome = true ∧ s.pieces = [])) := by
  unfold finishS at h
  split at h
  · rename_i hp
    split at h
    · exact absurd h.symm hl
    · rename_i hq
      refine ⟨h.symm, .inl ⟨?_, .inl hp⟩⟩
      cases hs : s.loc with
      | none => rfl
      | some p => exact absurd (.inl (by rw [hs]; rfl)) hq
  · rename_i hp
    have hp' : s.pieces = [] := Classical.byContradiction hp
    split at h
    · rename_i hq; exact ⟨h.symm, .inr ⟨hq, hp'⟩⟩
    · rename_i hq
      split at h
      · exact absurd h.symm hl
      · rename_i hr
        refine ⟨h.symm, .inl ⟨?_, .inr hr⟩⟩
        cases hs : s.loc with
        | none => rfl
        | some p => exact absurd (by rw [hs]; rfl) hq
/-- A machine that stands at its code's end. -/
theorem CxV.atEnd {D : CxD} {cb : Nat} {w : World} {k : List Int} {ps : List LPiece} {p bb : Nat} {bv : Value} {bl : List UInt8} {off : Nat} {rd : Bool} {kv qv : Value} {qs : List (LPiece × Value)}
    (h : CxV D cb w k ps p bb bv bl off rd kv qv qs) (hp : p = D.code.length) : off = bl.length := by
  have h1 := congrArg List.length h.pos
  have h2 := h.buf.2.2.2.1
  simp [hp] at h1; omega
/-- Behind the machine's loop. -/
def EndV (D : CxD) (cb : Nat) (o : Out) (w : World) : Prop := ∃ s ks, o = .fine s ∧ (resP s = [] → ks = s.stack ∧ s.stack ≠ []) ∧ CxR D cb w ks (resP s) D.code.length
theorem HeadR.toEnd {D : CxD} {x : LWorld} {l : List LCall} {cb f k : Nat} {o : Out} {w : World} {s : LSt} (hR : RunR x l f k s o) (hcl : D.code.length = pl l l.length) (hk : k ≤ l.length)
    (hA : (s.loc = none ∧ CxR D cb w s.stack s.pieces (pl l k)) ∨ (k = l.length ∧ ∃ p ks, s.loc = some p ∧ s.pieces = [] ∧ CxR D cb w ks [p] (pl l l.length))) (hlt : ¬ k < l.length) : EndV D cb o w := by
  have h1 := hR.run
  rw [runS_end hlt] at h1
  obtain ⟨h2, h3⟩ := finish_fine h1 hR.nl
  rcases hA with ⟨ha, hb⟩ | ⟨-, p, ks, ha, hb, hc⟩
  · have e : resP s = s.pieces := by unfold resP; split
                                     · rfl
                                     · rename_i hp; rw [ha]; simp at hp; rw [hp]
    have hk2 : k = l.length := by omega
    refine ⟨s, s.stack, h2, fun h => ⟨rfl, ?_⟩, by rw [e, hcl, ← hk2]; exact hb⟩
    rcases h3 with ⟨-, h4 | h4⟩ | ⟨h4, -⟩
    · exact absurd (e.symm.trans h) h4
    · exact h4
    · rw [ha] at h4; cases h4
  · have e : resP s = [p] := by simp [resP, ha, hb]
    exact ⟨s, ks, h2, (fun h => by rw [e] at h; cases h), by rw [e, hcl]; exact hc⟩
theorem ocells_get (qs : List (LPiece × Value)) : ∀ (i j : Nat) (h : i < qs.length), j < 4 → (ocells qs)[i * 4 + j]? = (ocell qs[i].1 qs[i].2)[j]? := by
  induction qs with
  | nil => intro i j h; simp at h
  | cons q qs ih =>
    intro i j h hj
    have e : ocells (q :: qs) = ocell q.1 q.2 ++ ocells qs := by simp [ocells]
    rw [e]
    cases i with
    | zero => rw [Nat.zero_mul, Nat.zero_add, List.getElem?_append_left (by simpa using hj)]; rfl
    | succ i =>
      rw [List.getElem?_append_right (by simp; omega)]
      have := ih i j (by simpa using h) hj
      have e2 : (i + 1) * 4 + j - (ocell q.1 q.2).length = i * 4 + j := by simp; omega
      rw [e2, this]; rfl
/-- One piece alone. -/
theorem CxV.one {D : CxD} {cb : Nat} {w : World} {k : List Int} {ps : List LPiece} {p bb : Nat} {bv : Value} {bl : List UInt8} {off : Nat} {rd : Bool} {kv qv : Value} {qs : List (LPiece × Value)}
    (h : CxV D cb w k ps p bb bv bl off rd kv qv qs) {q : LPiece} (hp : ps = [q]) :
    ∃ g c bvq, qv = .slice (some ⟨g, 0, none⟩) ps.length c ∧ qs = [(q, bvq)] ∧ w.cell? ⟨g, 0, none⟩ = some (vi q.size) ∧ w.cell? ⟨g, 1, none⟩ = some (.int .u8 q.kind) ∧ w.cell? ⟨g, 2, none⟩ = some (.int .u64 ((u64of q.value : Nat) : Int)) ∧ w.cell? ⟨g, 3, none⟩ = some bvq := by
  have hl : ps.length = 1 := by rw [hp]; rfl
  have hq := h.pq
  rw [hp] at hq
  obtain ⟨q', hq'⟩ : ∃ q', qs = [q'] := by
    match qs, hq with
    | [q'], _ => exact ⟨q', rfl⟩
  have h1 : q'.1 = q := by rw [hq'] at hq; simpa using hq
  rcases h.pcs.2 with ⟨_, h0⟩ | ⟨g, cap, cur, hv, hb, hg, hnc, hcm, hcs, htake⟩
  · omega
  · refine ⟨g, cap, q'.2, hv, by rw [hq', ← h1], ?_, ?_, ?_, ?_⟩
    · have := h.pcs.cells (g := g) (by rw [hv]; rfl) 0 (vi q.size) (by rw [hq', ← h1]; rfl); rwa [Addr.add_lit] at this
    · have := h.pcs.cells (g := g) (by rw [hv]; rfl) 1 (.int .u8 q.kind) (by rw [hq', ← h1]; rfl); rwa [Addr.add_lit] at this
    · have := h.pcs.cells (g := g) (by rw [hv]; rfl) 2 (.int .u64 ((u64of q.value : Nat) : Int)) (by rw [hq', ← h1]; rfl); rwa [Addr.add_lit] at this
    · have := h.pcs.cells (g := g) (by rw [hv]; rfl) 3 q'.2 (by rw [hq']; rfl); rwa [Addr.add_lit] at this
theorem CxS.up {D : CxD} {x : LWorld} (h : CxS D x) {w : World} (f : Fr [] D.W w) : CxS { D with W := w } x := by
  refine ⟨h.prog.fr f (by simp), fun g hg => Nat.lt_of_lt_of_le (h.plt g hg) f.size, h.clen, h.rlen, ?_, h.rbd, f.cell h.cat_ (by simp), f.cell h.cmm (by simp), h.mm.fr f (by simp), h.mlen, h.abd⟩
  obtain ⟨a, c, e, h1⟩ := h.regs
  refine ⟨a, c, e, fun hn => ?_⟩
  obtain ⟨g, rfl, h2⟩ := h1 hn
  refine ⟨g, rfl, fun i hi => ?_⟩
  obtain ⟨b, h3, h4⟩ := h2 i hi
  exact ⟨b, f.cell h3 (by simp), f.cell h4 (by simp)⟩

theorem CxR.start {D : CxD} {x : LWorld} (hS : CxS D x) {w' : World} {cb bb gb : Nat} (f : Fr [] D.W w') (hcb : w'.heap[cb]? = some (.cells (cxCells D bb (.slice (some ⟨gb, 0, none⟩) 0 3) (.slice none 0 0)) 168 (0, 0)))
    (hbb : w'.heap[bb]? = some (.cells #[D.pv, .int .i64 0, .bool false] 79 (0, 0))) (hgb : w'.heap[gb]? = some (.cells #[.int .i64 0, .int .i64 0, .int .i64 0] 2 (0, 0))) (h1 : D.W.heap.size ≤ cb) (h2 : D.W.heap.size ≤ bb) (h3 : D.W.heap.size ≤ gb) :
    CxR D cb w' [] [] 0 := by
  refine ⟨bb, D.pv, D.code, 0, false, _, _, [], hcb, f, h1, h2, ⟨by simpa using hbb, hS.prog.fr f (by simp), fun e => by have := hS.plt _ e; omega, Nat.zero_le _, by have := hS.clen; omega⟩, hS.prog, hS.plt, rfl, Nat.zero_le _, ?_, World.ownsRow_nil _ _ _ _, fun _ => rfl, rfl, by simp⟩
  refine ⟨rfl, .inr ⟨gb, 3, _, rfl, h3, hgb, by decide, by decide, by decide, rfl⟩⟩

set_option maxRecDepth 100000 in
set_option maxHeartbeats 4000000 in
theorem Execute_any (D0 : CxD) (x : LWorld) (l : List LCall) (o : Out) (hS : CxS D0 x) (hc : D0.code = exprL l) (ho : evalS x l D0.code.length = o) (hnl : o ≠ .left)
    (hkn : ∀ c ∈ l, knownB c.op c.a c.data.length = true)
    (hop : ∀ D : CxD, CxS D x → D.code = exprL l → D.cfa = D0.cfa → D.base = D0.base → ∀ k (h : k < l.length), OpGood D x l k l[k]) (hcfa : i64 D0.cfa) :
    Calls Try.prog 62 #[.agg #[.int .u64 0, vi D0.cfa, vi D0.base, vi 0, D0.rgv, .iface 95 (.agg #[]), .int .u64 16, .int .u64 7, .int .u64 6, .int .u64 0, .nilFunc, .nilIface, .nilFunc], D0.pv, vi 8, D0.rf] D0.W (ExecP D0 x o) := by
  obtain ⟨pa, pn, pc, hpv⟩ : ∃ a n c, D0.pv = .slice a n c := by obtain ⟨a, c, h, -⟩ := hS.prog.shape; exact ⟨a, _, c, h⟩
  have f1 : Fr [] D0.W (D0.W.alloc (.cells #[.int .u64 0, vi D0.cfa, vi D0.base, vi 0, D0.rgv, .iface 95 (.agg #[]), .int .u64 16, .int .u64 7, .int .u64 6, .int .u64 0, .nilFunc, .nilIface, .nilFunc] 125)) := (Fr.refl _ _).alloc _
  obtain ⟨W, hW⟩ : ∃ W, W = D0.W.alloc (.cells #[.int .u64 0, vi D0.cfa, vi D0.base, vi 0, D0.rgv, .iface 95 (.agg #[]), .int .u64 16, .int .u64 7, .int .u64 6, .int .u64 0, .nilFunc, .nilIface, .nilFunc] 125) := ⟨_, rfl⟩
  rw [← hW] at f1
  obtain ⟨D, hD⟩ : ∃ D, D = { D0 with W := W } := ⟨_, rfl⟩
  have hb0 : W.heap[D0.W.heap.size]? = some (.cells #[.int .u64 0, vi D0.cfa, vi D0.base, vi 0, D0.rgv, .iface 95 (.agg #[]), .int .u64 16, .int .u64 7, .int .u64 6, .int .u64 0, .nilFunc, .nilIface, .nilFunc] 125 (0, 0)) := by rw [hW]; exact blk_new _ _
  have hn0 := lt_heap hb0
  obtain ⟨n, hn⟩ : ∃ n, n = D0.W.heap.size := ⟨_, rfl⟩
  rw [← hn] at hb0 hn0
  have r0 : W.cell? ⟨n, 0, none⟩ = some (.int .u64 0) := blk_cell hb0 0
  have r1 : W.cell? ⟨n, 1, none⟩ = some (vi D0.cfa) := blk_cell hb0 1
  have r2 : W.cell? ⟨n, 2, none⟩ = some (vi D0.base) := blk_cell hb0 2
  have r3 : W.cell? ⟨n, 3, none⟩ = some (vi 0) := blk_cell hb0 3
  have r4 : W.cell? ⟨n, 4, none⟩ = some D0.rgv := blk_cell hb0 4
  have r5 : W.cell? ⟨n, 5, none⟩ = some (.iface 95 (.agg #[])) := blk_cell hb0 5
  have r6 : W.cell? ⟨n, 6, none⟩ = some (.int .u64 16) := blk_cell hb0 6
  have r7 : W.cell? ⟨n, 7, none⟩ = some (.int .u64 7) := blk_cell hb0 7
  have r8 : W.cell? ⟨n, 8, none⟩ = some (.int .u64 6) := blk_cell hb0 8
  have r9 : W.cell? ⟨n, 9, none⟩ = some (.int .u64 0) := blk_cell hb0 9
  have r10 : W.cell? ⟨n, 10, none⟩ = some .nilFunc := blk_cell hb0 10
  have r11 : W.cell? ⟨n, 11, none⟩ = some .nilIface := blk_cell hb0 11
  have r12 : W.cell? ⟨n, 12, none⟩ = some .nilFunc := blk_cell hb0 12
  have qA : ∀ o i, (W.alloc o).drew.cell? ⟨n, i, none⟩ = W.cell? ⟨n, i, none⟩ := fun o i => World.cell?_of_block (((Fr.refl [] W).alloc o).drew.blk n hn0 (by simp))
  have qB : ∀ o o' i, ((W.alloc o).alloc o').drew.cell? ⟨n, i, none⟩ = W.cell? ⟨n, i, none⟩ := fun o o' i => World.cell?_of_block ((((Fr.refl [] W).alloc o).alloc o').drew.blk n hn0 (by simp))
  have qC : ∀ o o' o'' i, (((W.alloc o).alloc o').alloc o'').drew.cell? ⟨n, i, none⟩ = W.cell? ⟨n, i, none⟩ := fun o o' o'' i => World.cell?_of_block (((((Fr.refl [] W).alloc o).alloc o').alloc o'').drew.blk n hn0 (by simp))
  have hmk : ∀ w, (Instr.makeSlice 106 (.int .i64 0) (.int .i64 3)).run Try.prog w = .ok (.slice (some ⟨w.heap.size, 0, none⟩) 0 3) (w.alloc (.cells #[.int .i64 0, .int .i64 0, .int .i64 0] 2 (0, 0))) := fun _ => by kernel_rfl
  have hSW : CxS D x := by rw [hD]; exact hS.up f1
  have HS := Lib.hid hSW
  have HW := Lib.hid hW
  have HD := Lib.hid hD
  have HF1 := Lib.hid f1
  have Hb0 := Lib.hid hb0
  have Hn := Lib.hid hn
  have Hcode := Lib.hid hc
  have Ho := Lib.hid ho
  have Hpv := Lib.hid hpv
  rw [hpv]
  obtain ⟨ra, rc, hrg, -⟩ := hS.regs
  have Hrg := Lib.hid hrg
  rw [hrg] at r4 ⊢
  clear hSW hW hD f1 hb0 hn hc ho hpv hS hrg
  go_enter Try.func62, Try.ntmps62
  go_upto_region 1 with fail
  have hW2 := HW.out
  rw [Hrg.out] at hW2
  rw [← hW2, ← Hn.out]
  clear hW2
  go_cut [11] from 18 to 26 (fun s11 wx => ∃ cb, s11 = .pointer (some ⟨cb, 0, none⟩) ∧ CxR D cb wx [] [] 0)
  case first =>
    go_region_held3 (fun w' => w'.cell? ⟨n, 0, none⟩ = some (.int .u64 0) ∧ w'.cell? ⟨n, 1, none⟩ = some (vi D0.cfa) ∧ w'.cell? ⟨n, 2, none⟩ = some (vi D0.base) ∧ w'.cell? ⟨n, 3, none⟩ = some (vi 0) ∧ w'.cell? ⟨n, 4, none⟩ = some (.slice ra x.regs.length rc) ∧ w'.cell? ⟨n, 5, none⟩ = some (.iface 95 (.agg #[])) ∧ w'.cell? ⟨n, 6, none⟩ = some (.int .u64 16) ∧ w'.cell? ⟨n, 7, none⟩ = some (.int .u64 7) ∧ w'.cell? ⟨n, 8, none⟩ = some (.int .u64 6) ∧ w'.cell? ⟨n, 9, none⟩ = some (.int .u64 0) ∧ w'.cell? ⟨n, 10, none⟩ = some (.nilFunc) ∧ w'.cell? ⟨n, 11, none⟩ = some (.nilIface) ∧ w'.cell? ⟨n, 12, none⟩ = some (.nilFunc)) ((first | exact ⟨r0, r1, r2, r3, r4, r5, r6, r7, r8, r9, r10, r11, r12⟩ | (simp only [qA, qB, qC]; exact ⟨r0, r1, r2, r3, r4, r5, r6, r7, r8, r9, r10, r11, r12⟩) | (refine ⟨?_, ?_, ?_, ?_, ?_, ?_, ?_, ?_, ?_, ?_, ?_, ?_, ?_⟩ <;> (simp; assumption)))) ((go_at_call 34; go_must (refine (NewBuffer_any _ _ _ _).mono ?_); rintro e w' ⟨rfl, rfl⟩))
    all_goals
      go_wp2_with fail
      go_meet
      have hp := Hpv.out
      have hr := Hrg.out
      have hd := HD.out
      refine ⟨_, rfl, ?_⟩
      subst hd
      first
      | (refine CxR.start HS.out (bb := W.heap.size) (gb := W.heap.size + 1) ((((Fr.refl [] W).alloc _).alloc _).alloc _).drew ?_ ?_ ?_ (by show W.heap.size ≤ _; omega) (by show W.heap.size ≤ _; omega) (by show W.heap.size ≤ _; omega)
         · have h3 := blk_new ((W.alloc (.cells #[.slice pa pn pc, .int .i64 0, .bool false] 79)).alloc (.cells #[.int .i64 0, .int .i64 0, .int .i64 0] 2)) (.cells (cxCells { D0 with W := W } W.heap.size (.slice (some ⟨W.heap.size + 1, 0, none⟩) 0 3) (.slice none 0 0)) 168)
           simp only [World.size_alloc] at h3
           rw [hp, hr] at h3
           simp only [hp, hr]
           exact h3
         · rw [hp]; exact blk_alloc (blk_alloc (blk_new W _))
         · have h2 := blk_new (W.alloc (.cells #[.slice pa pn pc, .int .i64 0, .bool false] 79)) (.cells #[.int .i64 0, .int .i64 0, .int .i64 0] 2)
           simp only [World.size_alloc] at h2
           exact blk_alloc h2)
      | (refine CxR.start HS.out (bb := W.heap.size + 1) (gb := W.heap.size) ((((Fr.refl [] W).alloc _).alloc _).alloc _).drew ?_ ?_ ?_ (by show W.heap.size ≤ _; omega) (by show W.heap.size ≤ _; omega) (by show W.heap.size ≤ _; omega)
         · have h3 := blk_new ((W.alloc (.cells #[.int .i64 0, .int .i64 0, .int .i64 0] 2)).alloc (.cells #[.slice pa pn pc, .int .i64 0, .bool false] 79)) (.cells (cxCells { D0 with W := W } (W.heap.size + 1) (.slice (some ⟨W.heap.size, 0, none⟩) 0 3) (.slice none 0 0)) 168)
           simp only [World.size_alloc] at h3
           rw [hp, hr] at h3
           simp only [hp, hr]
           exact h3
         · rw [hp]
           have h2 := blk_new (W.alloc (.cells #[.int .i64 0, .int .i64 0, .int .i64 0] 2)) (.cells #[.slice pa pn pc, .int .i64 0, .bool false] 79)
           simp only [World.size_alloc] at h2
           exact blk_alloc h2
         · exact blk_alloc (blk_alloc (blk_new W _)))
  case rest =>
    obtain ⟨cb, rfl, hcx⟩ := hcut
    have Hcx := Lib.hid hcx
    clear hcx qA qB qC hmk r0 r1 r2 r3 r4 r5 r6 r7 r8 r9 r10 r11 r12
    have hcd : D.code = exprL l := by rw [HD.out]; exact Hcode.out
    have hcl : D.code.length = pl l l.length := by rw [hcd, exprL_len]
    obtain ⟨m, hm⟩ : ∃ m, D.code.length = m := ⟨_, rfl⟩
    have hpn : pn = m := by
      have h1 := HS.out.prog
      have h2 : D.pv = .slice pa pn pc := by rw [HD.out]; exact Hpv.out
      rw [h2] at h1
      obtain ⟨a, c, h3, -⟩ := h1.shape
      simp only [Value.slice.injEq] at h3
      omega
    have hm5 : m ≤ 100000 := by rw [← hm]; exact HS.out.clen
    have Hm := Lib.hid hm
    have Hcl := Lib.hid hcl
    have Hcd := Lib.hid hcd
    subst hpn
    clear hm hcl hcd
    have HRg : Hid ((∀ w, Fr [] D.W w → w.cell? ⟨n, 0 + 4, none⟩ = some D.rgv) ∧ (∀ w, Fr [] D.W w → w.cell? ⟨n, 0 + 12, none⟩ = some .nilFunc)) := by
      have h1 : D.W = W := by rw [HD.out]
      have h2 : D.rgv = D0.rgv := by rw [HD.out]
      rw [h1, h2]
      exact ⟨fun w f => f.cell (blk_cell Hb0.out 4) (by simp), fun w f => f.cell (blk_cell Hb0.out 12) (by simp)⟩
    have HFD : Hid (Fr [] D0.W D.W) := by have h1 : D.W = W := by rw [HD.out]
                                          rw [h1]; exact HF1.out
    have hop2 := hop D HS.out Hcd.out (by rw [HD.out]) (by rw [HD.out])
    have Hop := Lib.hid hop2
    have Hnl := Lib.hid hnl
    have Hkn := Lib.hid hkn
    have hbase : HeadR D x l cb (fuelOf pn) o wc := by
      refine ⟨0, st0, Nat.zero_le _, ⟨?_, Hnl.out, rfl, rfl, ?_, ?_⟩, .inl ⟨rfl, ?_⟩⟩
      · have := Ho.out; rw [← this, show D0.code.length = pn by rw [← Hm.out, HD.out]]; rfl
      · simp [st0, fuelOf]; omega
      · simp [st0, fuelOf]; omega
      · rw [pl_zero]; exact Hcx.out
    have Hbase := Lib.hid hbase
    clear hop hop2 hnl hkn hbase hcfa
    go_wp2_with fail
    go_loopw [12] (fun t wr => ∃ j f, t = vi ((j : Nat) : Int) ∧ j + f ≤ fuelOf pn ∧ HeadR D x l cb f o wr) (fun t _ => fuelOf pn + 1 - (intOf t).toNat)
    case atStart => exact ⟨0, fuelOf pn, rfl, by omega, Hbase.out⟩
    case round =>
      obtain ⟨j, f, rfl, hjf, hh⟩ := hrel
      obtain ⟨k, s, hk, hR, hA⟩ := hh
      by_cases hlt : k < l.length
      · have hA2 : s.loc = none ∧ CxR D cb wr s.stack s.pieces (pl l k) := by
          rcases hA with h | ⟨h, -⟩
          · exact h
          · omega
        obtain ⟨hloc, hcx⟩ := hA2
        clear hA
        obtain ⟨f, rfl⟩ : ∃ f', f = f' + 1 := by
          cases f with
          | zero => exact absurd hR.run.symm (by rw [runS_zero hlt]; exact Hnl.out)
          | succ f' => exact ⟨f', rfl⟩
        have hlt2 := pl_lt l hlt
        have hj2 : ((j : Int) < (pn : Int) * 10) := by
          have h1 : pn = pl l l.length := by rw [← Hm.out]; exact Hcl.out
          unfold fuelOf at hjf; omega
        have hkn := Hkn.out l[k] (List.getElem_mem _)
        have hgood := Hop.out k hlt
        have hops := eshape_ops (known_shape hkn)
        obtain ⟨y, hy⟩ : ∃ y, UInt8.ofNat l[k].op.toNat = y := ⟨_, rfl⟩
        have hyt : y.toNat = l[k].op.toNat := by rw [← hy, ofNat_toNat (by omega)]
        have hAt : AtC D (pl l k) [y] (pl l k + 1) := by
          have h1 := expr_drop l k hlt
          rw [← Hcd.out] at h1
          have h2 : D.code.drop (pl l k) = y :: (eopnds l[k].data (dOf l k l[k]) (eshape l[k].op).1 [l[k].a, l[k].b] ++ D.code.drop (pl l (k + 1))) := by rw [h1, ← hy]; rfl
          refine ⟨?_, rfl, by have := Hcl.out; omega⟩
          have h3 : D.code.drop (pl l k + 1) = (D.code.drop (pl l k)).drop 1 := by rw [List.drop_drop]
          rw [h3, h2]; rfl
        have hps := pl_succ l k hlt
        have hrs := hR.run
        rw [runS_succ hlt] at hrs
        generalize l[k] = c' at *
        obtain ⟨bb, bv, bl, off, rd, kv, qv, qs, hv⟩ := hcx
        have c0 : wr.cell? ⟨cb, 0, none⟩ = some (.pointer (some ⟨bb, 0, none⟩)) := hv.cell 0
        have Hv := Lib.hid hv
        have HAt := Lib.hid hAt
        have HR := Lib.hid hR
        have Hloc := Lib.hid hloc
        have Hhlt := Lib.hid hlt
        clear hv hAt hR hloc hlt2 hy
        rcases hgood with h150 | ⟨fn, op, hopc, h256, hn150, hlut, hcf, hcall⟩
        · have hy150 : y.toNat = 150 := by omega
          have hrun2 : runS x l f (k + 1) s = o := by
            have h1 := hrs
            have h2 : stepS x c' (k + 1) s = (((k + 1 : Nat) : Int), s) := by
              unfold stepS jumpS doS
              simp [h150, Hloc.out]
            rw [h2] at h1
            simpa [HR.out.left, HR.out.bad] using h1
          have hpl : pl l (k + 1) = pl l k + 1 := by
            have : eSz c' = 1 := by simp [eSz, eL, h150, eshape, eopnds]
            omega
          have Hrun2 := Lib.hid hrun2
          have Hpl := Lib.hid hpl
          have Hy := Lib.hid hy150
          clear hrun2 hpl h150 hyt hops hkn hlt hy150 hps hrs
          go_wp2_with (go_at_call 76; go_must (refine (ReadByte_y bb bv bl off rd _ y (D.code.drop (pl l k + 1)) Hv.out.buf (Hv.out.hp HAt.out)).mono ?_); rw [show vb y = .int .u8 150 by show Value.int .u8 ((y.toNat : Nat) : Int) = _; rw [Hy.out]; rfl]; rintro e w2 ⟨rfl, hb2, hf2⟩; have Hcx2 := Lib.hid (Hv.out.past HAt.out (n := 1) rfl hb2 hf2); clear hb2 hf2 c0)
          refine ⟨⟨j + 1, f, by go_num, by omega, k + 1, s, Hhlt.out, ⟨Hrun2.out, Hnl.out, HR.out.left, HR.out.bad, by have := HR.out.l1; omega, by have := HR.out.l2; omega⟩, .inl ⟨Hloc.out, by rw [Hpl.out]; exact ⟨_, _, _, _, _, _, _, _, Hcx2.out⟩⟩⟩, by simp [intOf]; omega⟩
        · have hyo : y.toNat = op := by omega
          have Hy := Lib.hid hyo
          have Hlut := Lib.hid hlut
          have Hcall := Lib.hid hcall
          have q150 : ((op : Int) == 150) = false := by rw [beq_eq_false_iff_ne]; omega
          clear hlut hcall hyt hops hkn hlt hyo hopc hps hrs
          go_wp2_with (first | (go_at_call 77; go_must (refine (Hlut.out _).mono ?_); rintro e w' ⟨rfl, rfl⟩) | (go_at_call 76; go_must (refine (ReadByte_y bb bv bl off rd _ y (D.code.drop (pl l k + 1)) Hv.out.buf (Hv.out.hp HAt.out)).mono ?_); rw [show vb y = .int .u8 (op : Int) by rw [← Hy.out]]; rintro e w2 ⟨rfl, hb2, hf2⟩; have Hcx2 := Lib.hid (Hv.out.past HAt.out (n := 1) rfl hb2 hf2); clear hb2 hf2 c0))
          refine (Hcall.out cb _ s f o ⟨_, _, _, _, _, _, _, _, Hcx2.out⟩ Hloc.out HR.out).mono ?_
          rintro e w3 (⟨hob, (⟨t, u, rfl⟩ | ⟨t, u, rfl⟩), hf3⟩ | ⟨rfl, f2, hf2, hhead⟩)
          · have Hob := Lib.hid hob
            have Hf3 := Lib.hid hf3
            clear hob hf3
            go_wp2_with fail
            go_ret3
            exact ExecP.down (D := D) (.inl ⟨Hob.out, .inl ⟨_, _, rfl⟩, Hf3.out⟩) HFD.out
          · have Hob := Lib.hid hob
            have Hf3 := Lib.hid hf3
            clear hob hf3
            go_wp2_with fail
            exact ⟨rfl, ExecP.down (D := D) (.inl ⟨Hob.out, .inr ⟨_, _, rfl⟩, Hf3.out⟩) HFD.out⟩
          · have Hhead := Lib.hid hhead
            clear hhead
            go_wp2_with fail
            exact ⟨⟨j + 1, f2, by go_num, by omega, Hhead.out⟩, by simp [intOf]; omega⟩
      · have hE : EndV D cb o wr := HeadR.toEnd hR Hcl.out hk hA hlt
        have HE := Lib.hid hE
        clear hA hR hE
        by_cases hj : j < pn * 10
        · have hj2 : ((j : Int) < (pn : Int) * 10) := by omega
          obtain ⟨s, ks, hos, hrs, hcx⟩ := HE.out
          obtain ⟨bb, bv, bl, off, rd, kv, qv, qs, hv⟩ := hcx
          have c0 : wr.cell? ⟨cb, 0, none⟩ = some (.pointer (some ⟨bb, 0, none⟩)) := hv.cell 0
          have hoff := hv.atEnd rfl
          subst hoff
          have Hv := Lib.hid hv
          have Hos := Lib.hid hos
          have Hrs := Lib.hid hrs
          clear hv hos hrs hj HE
          go_upto_region 15 with (go_at_call 76; go_must (refine (BufReadByte_end bb bv bl rd _ Hv.out.buf).mono ?_); rintro e w2 ⟨⟨u, rfl⟩, hb2, hf2⟩; have HE : Hid (EndV D cb o w2) := ⟨s, ks, Hos.out, Hrs.out, _, _, _, _, _, _, _, _, Hv.out.read hb2 hf2 Hv.out.pos (Nat.le_refl _)⟩; clear hb2 hf2 c0)
          clear Hos Hrs Hv
          obtain ⟨s, ks, hos, hrs, hcx⟩ := HE.out
          obtain ⟨bb, bv, bl, off, rd, kv, qv, qs, hv⟩ := hcx
          have c2 : w2.cell? ⟨cb, 2, none⟩ = some kv := hv.cell 2
          have c3 : w2.cell? ⟨cb, 3, none⟩ = some qv := hv.cell 3
          have Hos := Lib.hid hos
          have qN : ∀ w, (binOp .neq 128 (.slice none 0 0) (.slice none 0 0)).run Try.prog w = .ok (.bool false) w := fun _ => by kernel_rfl
          have qS : ∀ a n c w, (binOp .neq 128 (.slice (some a) n c) (.slice none 0 0)).run Try.prog w = .ok (.bool true) w := fun _ _ _ _ => by kernel_rfl
          clear hos
          rcases hres : resP s with _ | ⟨q, _ | ⟨q2, qr⟩⟩
          · obtain ⟨hks, hne⟩ := hrs hres
            have hq0 := hv.pn hres
            subst hq0
            have hpos : 0 < ks.length := by rw [hks]; exact List.length_pos_iff.2 hne
            obtain ⟨g, kc, rfl, hk1, hk2, hcc⟩ := own_vis hv.own hpos
            obtain ⟨m, hm⟩ : ∃ m, ks.length = m + 1 := ⟨ks.length - 1, by omega⟩
            have cx := hcc m (by omega)
            have eg : s.stack.getLast? = some (ks[m]'(by omega)) := by rw [← hks, List.getLast?_eq_getElem?, show ks.length - 1 = m by omega, List.getElem?_eq_getElem]
            generalize ks[m]'(by omega) = y at *
            rw [hm] at c2 hk1
            unfold maxLen at hk2
            have Hv := Lib.hid hv
            have Hres := Lib.hid hres
            have Eg := Lib.hid eg
            clear hv hres eg hks hne hcc hm hrs hpos
            go_wp2_with fail
            go_quiet (fail)
            go_wp2_with fail
            go_ret3
            refine ExecP.down (D := D) ?_ HFD.out
            refine .inr ⟨s, .slice none 0 0, qs, Hos.out, by simp [valP, Hres.out, Eg.out], Hv.out.fr.drewN _, ?_, ?_, ?_⟩
            · have := (Hv.out.call (w' := World.drewN w2 nq) ((Fr.refl _ _).drewN _)).pcs
              exact this
            · exact Hv.out.pq
            · exact (Hv.out.call (w' := World.drewN w2 nq) ((Fr.refl _ _).drewN _)).pb
          · have hp1 : (resP s).length = 1 := by rw [hres]; rfl
            obtain ⟨g, qc, bvq, rfl, hqs, g0, g1, g2, g3⟩ := hv.one hres
            have Hv := Lib.hid hv
            have Hres := Lib.hid hres
            have hR : RegsAt D.W w2 n 0 x D.rgv := ⟨HRg.out.1 _ Hv.out.fr, HRg.out.2 _ Hv.out.fr, Hv.out.fr, HS.out.rlen, HS.out.regs⟩
            have HR := Lib.hid hR
            clear hv hres hrs hR hqs
            rw [hp1] at c3
            by_cases hk : q.kind = 1
            · have q1 : (q.kind == 1) = true := by simpa using hk
              have hkk := Lib.hid hk
              have U := u64of_lt q.value
              obtain ⟨uu, hu⟩ : ∃ uu, u64of q.value = uu := ⟨_, rfl⟩
              rw [hu] at g2 U
              have Hu := Lib.hid hu
              clear hk hu
              go_wp2_with fail
              go_quiet ((go_at_call 78; exact Calls.quiet_of_same ((Uint64Val_any D.W n 0 x D.rgv _ uu ⟨HRg.out.1 _ (Hv.out.fr.drewN _), HRg.out.2 _ (Hv.out.fr.drewN _), Hv.out.fr.drewN _, HS.out.rlen, HS.out.regs⟩ U).mono fun e w' h => ⟨h.1, h.2.symm⟩)))
              go_wp2_with fail
              go_ret3
              refine ExecP.down (D := D) ?_ HFD.out
              refine .inr ⟨s, .slice (some ⟨g, 0, none⟩) 1 qc, qs, Hos.out, by simp [valP, Hres.out, hkk.out, Hu.out], Hv.out.fr.drewN _, ?_, ?_, ?_⟩
              · have := (Hv.out.call (w' := World.drewN w2 nq) ((Fr.refl _ _).drewN _)).pcs
                rw [hp1] at this ⊢; exact this
              · exact Hv.out.pq
              · exact (Hv.out.call (w' := World.drewN w2 nq) ((Fr.refl _ _).drewN _)).pb
            · have q1 : (q.kind == 1) = false := by simpa using hk
              have hkk := Lib.hid hk
              clear hk
              go_wp2_with fail
              go_quiet (fail)
              go_wp2_with fail
              go_ret3
              refine ExecP.down (D := D) ?_ HFD.out
              refine .inr ⟨s, .slice (some ⟨g, 0, none⟩) 1 qc, qs, Hos.out, by simp [valP, Hres.out, hkk.out], Hv.out.fr.drewN _, ?_, ?_, ?_⟩
              · have := (Hv.out.call (w' := World.drewN w2 nq) ((Fr.refl _ _).drewN _)).pcs
                rw [hp1] at this ⊢; exact this
              · exact Hv.out.pq
              · exact (Hv.out.call (w' := World.drewN w2 nq) ((Fr.refl _ _).drewN _)).pb
          · have hp2 : (resP s).length = qr.length + 2 := by rw [hres]; rfl
            obtain ⟨qa, qc, rfl⟩ := own_slice hv.pcs
            have hqa : ∃ a, qa = some a := by
              cases qa with
              | some a => exact ⟨a, rfl⟩
              | none =>
                rcases hv.pcs.2 with ⟨_, h0⟩ | ⟨g, cap, cur, h0, _⟩
                · omega
                · cases h0
            obtain ⟨a, rfl⟩ := hqa
            have q1 : (((resP s).length : Int) == 1) = false := by rw [beq_eq_false_iff_ne]; omega
            have Hv := Lib.hid hv
            have Hres := Lib.hid hres
            clear hv hres hrs
            go_wp2_with fail
            go_quiet (fail)
            go_wp2_with fail
            go_ret3
            refine ExecP.down (D := D) ?_ HFD.out
            refine .inr ⟨s, .slice (some a) (resP s).length qc, qs, Hos.out, by simp [valP, Hres.out], Hv.out.fr.drewN _, ?_, ?_, ?_⟩
            · exact (Hv.out.call (w' := World.drewN w2 nq) ((Fr.refl _ _).drewN _)).pcs
            · exact Hv.out.pq
            · exact (Hv.out.call (w' := World.drewN w2 nq) ((Fr.refl _ _).drewN _)).pb
        · have hj2 : ¬ ((j : Int) < (pn : Int) * 10) := by omega
          clear hj
          obtain ⟨s, ks, hos, hrs, hcx⟩ := HE.out
          obtain ⟨bb, bv, bl, off, rd, kv, qv, qs, hv⟩ := hcx
          have c2 : wr.cell? ⟨cb, 2, none⟩ = some kv := hv.cell 2
          have c3 : wr.cell? ⟨cb, 3, none⟩ = some qv := hv.cell 3
          have Hos := Lib.hid hos
          have qN : ∀ w, (binOp .neq 128 (.slice none 0 0) (.slice none 0 0)).run Try.prog w = .ok (.bool false) w := fun _ => by kernel_rfl
          have qS : ∀ a n c w, (binOp .neq 128 (.slice (some a) n c) (.slice none 0 0)).run Try.prog w = .ok (.bool true) w := fun _ _ _ _ => by kernel_rfl
          clear hos
          rcases hres : resP s with _ | ⟨q, _ | ⟨q2, qr⟩⟩
          · obtain ⟨hks, hne⟩ := hrs hres
            have hq0 := hv.pn hres
            subst hq0
            have hpos : 0 < ks.length := by rw [hks]; exact List.length_pos_iff.2 hne
            obtain ⟨g, kc, rfl, hk1, hk2, hcc⟩ := own_vis hv.own hpos
            obtain ⟨m, hm⟩ : ∃ m, ks.length = m + 1 := ⟨ks.length - 1, by omega⟩
            have cx := hcc m (by omega)
            have eg : s.stack.getLast? = some (ks[m]'(by omega)) := by rw [← hks, List.getLast?_eq_getElem?, show ks.length - 1 = m by omega, List.getElem?_eq_getElem]
            generalize ks[m]'(by omega) = y at *
            rw [hm] at c2 hk1
            unfold maxLen at hk2
            have Hv := Lib.hid hv
            have Hres := Lib.hid hres
            have Eg := Lib.hid eg
            clear hv hres eg hks hne hcc hm hrs hpos
            go_wp2_with fail
            go_quiet (fail)
            go_wp2_with fail
            go_ret3
            refine ExecP.down (D := D) ?_ HFD.out
            refine .inr ⟨s, .slice none 0 0, qs, Hos.out, by simp [valP, Hres.out, Eg.out], Hv.out.fr.drewN _, ?_, ?_, ?_⟩
            · have := (Hv.out.call (w' := World.drewN wr nq) ((Fr.refl _ _).drewN _)).pcs
              exact this
            · exact Hv.out.pq
            · exact (Hv.out.call (w' := World.drewN wr nq) ((Fr.refl _ _).drewN _)).pb
          · have hp1 : (resP s).length = 1 := by rw [hres]; rfl
            obtain ⟨g, qc, bvq, rfl, hqs, g0, g1, g2, g3⟩ := hv.one hres
            have Hv := Lib.hid hv
            have Hres := Lib.hid hres
            have hR : RegsAt D.W wr n 0 x D.rgv := ⟨HRg.out.1 _ Hv.out.fr, HRg.out.2 _ Hv.out.fr, Hv.out.fr, HS.out.rlen, HS.out.regs⟩
            have HR := Lib.hid hR
            clear hv hres hrs hR hqs
            rw [hp1] at c3
            by_cases hk : q.kind = 1
            · have q1 : (q.kind == 1) = true := by simpa using hk
              have hkk := Lib.hid hk
              have U := u64of_lt q.value
              obtain ⟨uu, hu⟩ : ∃ uu, u64of q.value = uu := ⟨_, rfl⟩
              rw [hu] at g2 U
              have Hu := Lib.hid hu
              clear hk hu
              go_wp2_with fail
              go_quiet ((go_at_call 78; exact Calls.quiet_of_same ((Uint64Val_any D.W n 0 x D.rgv _ uu ⟨HRg.out.1 _ (Hv.out.fr.drewN _), HRg.out.2 _ (Hv.out.fr.drewN _), Hv.out.fr.drewN _, HS.out.rlen, HS.out.regs⟩ U).mono fun e w' h => ⟨h.1, h.2.symm⟩)))
              go_wp2_with fail
              go_ret3
              refine ExecP.down (D := D) ?_ HFD.out
              refine .inr ⟨s, .slice (some ⟨g, 0, none⟩) 1 qc, qs, Hos.out, by simp [valP, Hres.out, hkk.out, Hu.out], Hv.out.fr.drewN _, ?_, ?_, ?_⟩
              · have := (Hv.out.call (w' := World.drewN wr nq) ((Fr.refl _ _).drewN _)).pcs
                rw [hp1] at this ⊢; exact this
              · exact Hv.out.pq
              · exact (Hv.out.call (w' := World.drewN wr nq) ((Fr.refl _ _).drewN _)).pb
            · have q1 : (q.kind == 1) = false := by simpa using hk
              have hkk := Lib.hid hk
              clear hk
              go_wp2_with fail
              go_quiet (fail)
              go_wp2_with fail
              go_ret3
              refine ExecP.down (D := D) ?_ HFD.out
              refine .inr ⟨s, .slice (some ⟨g, 0, none⟩) 1 qc, qs, Hos.out, by simp [valP, Hres.out, hkk.out], Hv.out.fr.drewN _, ?_, ?_, ?_⟩
              · have := (Hv.out.call (w' := World.drewN wr nq) ((Fr.refl _ _).drewN _)).pcs
                rw [hp1] at this ⊢; exact this
              · exact Hv.out.pq
              · exact (Hv.out.call (w' := World.drewN wr nq) ((Fr.refl _ _).drewN _)).pb
          · have hp2 : (resP s).length = qr.length + 2 := by rw [hres]; rfl
            obtain ⟨qa, qc, rfl⟩ := own_slice hv.pcs
            have hqa : ∃ a, qa = some a := by
              cases qa with
              | some a => exact ⟨a, rfl⟩
              | none =>
                rcases hv.pcs.2 with ⟨_, h0⟩ | ⟨g, cap, cur, h0, _⟩
                · omega
                · cases h0
            obtain ⟨a, rfl⟩ := hqa
            have q1 : (((resP s).length : Int) == 1) = false := by rw [beq_eq_false_iff_ne]; omega
            have Hv := Lib.hid hv
            have Hres := Lib.hid hres
            clear hv hres hrs
            go_wp2_with fail
            go_quiet (fail)
            go_wp2_with fail
            go_ret3
            refine ExecP.down (D := D) ?_ HFD.out
            refine .inr ⟨s, .slice (some a) (resP s).length qc, qs, Hos.out, by simp [valP, Hres.out], Hv.out.fr.drewN _, ?_, ?_, ?_⟩
            · exact (Hv.out.call (w' := World.drewN wr nq) ((Fr.refl _ _).drewN _)).pcs
            · exact Hv.out.pq
            · exact (Hv.out.call (w' := World.drewN wr nq) ((Fr.refl _ _).drewN _)).pb
end Go.Proofs.Ytahohmdfllgedaa

namespace Go.Proofs.Ytahohmdfllgedaa
open Go.RowKit

set_option maxRecDepth 100000 in
set_option maxHeartbeats 1000000 in
theorem catch_idle (p q r : Addr) (w : World) :
    CallsD Try.prog 57 #[.pointer (some p), .pointer (some q), .pointer (some r)] .returning w fun e u' w' => e = .returned (.tuple #[]) ∧ u' = .returning ∧ w' = w := by
  refine callsD_of_wpS Try.func57 rfl fun c₀ cs hu => ?_
  apply wpS_seq
  apply wpS_region
  simp [wpOpsS, go_sem, recoverD, hu, Try.ntmps57, Exit.thenS]
  refine wpS_cond (t := false) (by simp [Act.eval, Array.replicate]) ?_
  simp only [Bool.false_eq_true, if_false]
  refine wpS_of_wp (wp_skip ?_)
  cases c₀
  simp_all [bodyPostS, results, Try.results57]

set_option maxRecDepth 100000 in
set_option maxHeartbeats 1000000 in
theorem catch_panicking (a b c : Nat) (v1 v2 v3 : Value) (u : TypeId) (pv : Value) (w : World) (h1 : w.heap[a]? = some (.cells #[v1] 2 (0, 0))) (h2 : w.heap[b]? = some (.cells #[v2] 61 (0, 0))) (h3 : w.heap[c]? = some (.cells #[v3] 4 (0, 0))) :
    CallsD Try.prog 57 #[.pointer (some ⟨a, 0, none⟩), .pointer (some ⟨b, 0, none⟩), .pointer (some ⟨c, 0, none⟩)] (.panicking [{ v := .iface u pv, recovered := false }]) w fun e u' w' =>
      e = .returned (.tuple #[]) ∧ u' = .panicking [{ v := .iface u pv, recovered := true }] ∧ w' = ((w.setCell ⟨a, 0, none⟩ (vi 0)).setCell ⟨b, 0, none⟩ (.slice none 0 0)).setCell ⟨c, 0, none⟩ (.bool false) := by
  have c1 : w.cell? ⟨a, 0, none⟩ = some v1 := blk_cell h1 0
  have z1 := blk_free h1 0
  have n1 : b ≠ a := by rintro rfl; rw [h1] at h2; simp at h2
  have n2 : c ≠ a := by rintro rfl; rw [h1] at h3; simp at h3
  have n3 : c ≠ b := by rintro rfl; rw [h2] at h3; simp at h3
  have f1 : Fr [a] w (w.setCell ⟨a, 0, none⟩ (vi 0)) := (Fr.refl _ _).setCell (.inl (by simp)) _
  have f2 : Fr [a, b] w ((w.setCell ⟨a, 0, none⟩ (vi 0)).setCell ⟨b, 0, none⟩ (.slice none 0 0)) := ((Fr.refl [a, b] w).setCell (p := ⟨a, 0, none⟩) (.inl (by simp)) _).setCell (p := ⟨b, 0, none⟩) (.inl (by simp)) _
  have d2 : (w.setCell ⟨a, 0, none⟩ (vi 0)).cell? ⟨b, 0, none⟩ = some v2 := blk_cell (f1.get h2 (by simpa using n1)) 0
  have y2 : (w.setCell ⟨a, 0, none⟩ (vi 0)).frozen? ⟨b, 0, none⟩ = false := blk_free (f1.get h2 (by simpa using n1)) 0
  have d3 : ((w.setCell ⟨a, 0, none⟩ (vi 0)).setCell ⟨b, 0, none⟩ (.slice none 0 0)).cell? ⟨c, 0, none⟩ = some v3 := blk_cell (f2.get h3 (by simp; exact ⟨n2, n3⟩)) 0
  have y3 : ((w.setCell ⟨a, 0, none⟩ (vi 0)).setCell ⟨b, 0, none⟩ (.slice none 0 0)).frozen? ⟨c, 0, none⟩ = false := blk_free (f2.get h3 (by simp; exact ⟨n2, n3⟩)) 0
  refine callsD_of_wpS Try.func57 rfl fun c₀ cs hu => ?_
  apply wpS_seq
  apply wpS_region
  simp [wpOpsS, go_sem, recoverD, hu, Try.ntmps57, Exit.thenS]
  refine wpS_cond (t := true) (by simp [Act.eval, Array.replicate]) ?_
  simp only [if_true]
  apply wpS_region
  simp [wpOpsS, go_sem, c1, d2, d3, z1, y2, y3, bodyPostS, results, Try.results57]

set_option maxHeartbeats 400000 in
theorem DRegFrom_any (n : Nat) (w : World) : Calls Try.prog 58 #[.int .u64 (n : Int)] w fun e w' => e = .returned (.pointer (some ⟨w.heap.size, 0, none⟩)) ∧ w' = w.alloc (.cells #[.int .u64 (n : Int), .slice none 0 0] 161) := by
  go_enter Try.func58, Try.ntmps58
  go_wp2_with fail
  go_ret
  exact ⟨rfl, rfl⟩
set_option maxHeartbeats 400000 in
theorem NewDRegs_any (a : Option Addr) (n c : Nat) (w : World) : Calls Try.prog 59 #[.int .u64 0, .slice a n c, .iface 95 (.agg #[]), .int .u64 16, .int .u64 7, .int .u64 6, .int .u64 0] w fun e w' => e = .returned (.pointer (some ⟨w.heap.size, 0, none⟩)) ∧
    w' = w.alloc (.cells #[.int .u64 0, vi 0, vi 0, vi 0, .slice a n c, .iface 95 (.agg #[]), .int .u64 16, .int .u64 7, .int .u64 6, .int .u64 0, .nilFunc, .nilIface, .nilFunc] 125) := by
  go_enter Try.func59, Try.ntmps59
  go_wp2_with fail
  go_ret
  exact ⟨rfl, rfl⟩
/-- What is read behind the last deferred call. -/
theorem res_ok (tmps : Array Value) (n : Nat) (v1 v2 v3 : Value) (w : World) (k4 : tmps[4]? = some (.pointer (some ⟨n + 1, 0, none⟩))) (k5 : tmps[5]? = some (.pointer (some ⟨n + 1 + 1, 0, none⟩))) (k6 : tmps[6]? = some (.pointer (some ⟨n + 1 + 1 + 1, 0, none⟩)))
    (c1 : w.cell? ⟨n + 1, 0, none⟩ = some v1) (c2 : w.cell? ⟨n + 2, 0, none⟩ = some v2) (c3 : w.cell? ⟨n + 3, 0, none⟩ = some v3) : (results Try.f29 tmps).run Try.prog w = .ok (.tuple #[v1, v2, v3]) w := by
  have c2' : w.cell? ⟨n + 1 + 1, 0, none⟩ = some v2 := c2
  have c3' : w.cell? ⟨n + 1 + 1 + 1, 0, none⟩ = some v3 := c3
  simp [results, Try.results29, go_sem, k4, k5, k6, c1, c2', c3']
set_option maxHeartbeats 400000 in
theorem Clone_nil (w : World) : Calls Try.prog 35 #[.slice none 0 0] w fun e w' => e = .returned (.slice none 0 0) ∧ w' = w := by
  have qT : ∀ (w : World) (a : Option Addr) (n c n' c' : Nat), (binOp .eql 23 (.slice a n c) (.slice none n' c')).run Try.prog w = .ok (.bool a.isNone) w := fun w a n c n' c' => Lib.run_eql_slice_nil w _ _ a n c n' c' Try.underlying23
  go_enter Try.func35, Try.ntmps35
  go_wp2_with fail
  go_ret
  exact ⟨rfl, rfl⟩
end Go.Proofs.Ytahohmdfllgedaa

namespace Go.Proofs.Ytahohmdfllgedaa

/-- Q, but at a panic: which calls are deferred, and what is known of the world. -/
def PanG (Q : Exit → Act → World → Prop) (ds : List Deferred) (G : List PanicEntry → World → Prop) : Exit → Act → World → Prop
  | .panic c, a, w => a.defers = ds ∧ G c w
  | e, a, w => Q e a w
def Kept (ts : List Nat) (a0 a : Act) : Prop := ∀ t ∈ ts, a.tmps[t]? = a0.tmps[t]?
theorem Kept.put {ts : List Nat} {a0 a : Act} (h : Kept ts a0 a) {d : Option Tmp} (hd : ∀ t ∈ ts, d ≠ some t) (v : Value) : Kept ts a0 (a.put d v) := by
  intro t ht
  cases d with
  | none => exact h t ht
  | some d =>
    have hne : d ≠ t := fun e => hd t ht (by rw [e])
    show (a.tmps.setIfInBounds d v)[t]? = _
    rw [Array.getElem?_setIfInBounds_ne hne]; exact h t ht
theorem upon_keep {P : Program} {Q : Exit → Act → World → Prop} {ds : List Deferred} {G : List PanicEntry → World → Prop} {ts : List Nat} {a0 : Act} {o : Oper} {K K' : Act → World → Prop}
    (hd : ∀ t ∈ ts, o.dst ≠ some t) (hG : ∀ c a w, G c w → a.defers = ds → Kept ts a0 a → Q (.panic c) a w) (hK : ∀ a w, Kept ts a0 a → K a w → K' a w) {a : Act} (hk : Kept ts a0 a) {r : Result Next}
    (h : o.upon P a K (PanG Q ds G) r) : o.upon P a K' Q r := by
  unfold Oper.upon at h ⊢
  split at h
  · exact hK _ _ (hk.put hd _) h
  · exact hK _ _ (hk.put hd _) h
  · rename_i d w'
    have hk2 : Kept ts a0 { a with defers := d :: a.defers } := hk
    exact hK _ _ (hk2.put hd _) h
  · refine Calls.mono h fun e w' h' => ?_
    cases e with
    | returned v => exact hK _ _ (hk.put hd _) h'
    | panicked c => exact hG _ _ _ h'.2 h'.1 hk
    | outgrown => exact h'
  · exact Rows.mono h fun v w' h' => hK _ _ (hk.put hd _) h'
  · exact hG _ _ _ h.2 h.1 hk
  · exact h.elim
theorem wpAny_keep {P : Program} {md : Region.Mode} {ops : Array Oper} {Q : Exit → Act → World → Prop} (ds : List Deferred) (G : List PanicEntry → World → Prop) (ts : List Nat) (a0 : Act)
    (hd : ∀ o ∈ ops.toList, ∀ t ∈ ts, o.dst ≠ some t) (hG : ∀ c a w, G c w → a.defers = ds → Kept ts a0 a → Q (.panic c) a w) :
    ∀ (fuel : Nat) (listed : Array Bool) (a : Act) (w : World), Kept ts a0 a → wpAny P md ops (PanG Q ds G) fuel listed a w → wpAny P md ops Q fuel listed a w := by
  intro fuel
  induction fuel with
  | zero => intro listed a w _ h; exact h
  | succ fuel ih =>
    intro listed a w hk h
    refine ⟨h.1, fun i hi => ?_⟩
    have h2 := h.2 i hi
    unfold wpOp at h2 ⊢
    cases ho : ops[i]? with
    | none => simp only [ho] at h2 ⊢; exact ih _ _ _ hk h2
    | some o =>
      simp only [ho] at h2 ⊢
      have hdo : ∀ t ∈ ts, o.dst ≠ some t := hd o (by
        have := Array.getElem?_toList (xs := ops) (i := i)
        rw [ho] at this
        exact List.mem_of_getElem? this)
      split at h2
      · rename_i hw
        rw [if_pos hw]
        rcases h2 with h2 | ⟨h3, aa, ww, h4⟩
        · exact .inl (upon_keep hdo hG (fun a w hk' h' => ih _ a w hk' h') hk h2)
        · exact .inr ⟨h3, aa, ww, h4⟩
      · rename_i hw
        rw [if_neg hw]
        exact ih _ _ _ (hk.put hdo _) h2
theorem wp_region_keep {P : Program} {ops : Array Oper} {Q : Exit → Act → World → Prop} {id : Nat} {a : Act} {w : World} (hm : P.follows .mixedOrders = true) (ds : List Deferred) (G : List PanicEntry → World → Prop) (ts : List Nat)
    (hd : ∀ o ∈ ops.toList, ∀ t ∈ ts, o.dst ≠ some t) (hG : ∀ c a' w, G c w → a'.defers = ds → Kept ts a a' → Q (.panic c) a' w)
    (h : wpAny P .any ops (PanG Q ds G) ops.size (Array.replicate ops.size false) a w.drew) : (Code.region id ops true).wp P Q a w :=
  wp_region_any hm (wpAny_keep ds G ts a hd hG _ _ _ _ (fun _ _ => rfl) h)
end Go.Proofs.Ytahohmdfllgedaa

namespace Go.Proofs.Ytahohmdfllgedaa
open Go.RowKit

/-- An answer's piece. -/
def RIP (W : World) (vs : List Value) (p : LPiece) : Prop :=
  ∃ bv, vs = [vi p.kind, .int .u64 ((u64of p.value : Nat) : Int), vi p.size, bv] ∧ ((p.kind = 2 ∧ p.stk = false ∧ Sl W bv (vbs p.bytes)) ∨ (¬ (p.kind = 2 ∧ p.stk = false) ∧ bv = .slice none 0 0))
def IvP (x : LWorld) (w0 : World) (o : Out) (e : Ending) (w' : World) : Prop :=
  Fr [] w0 w' ∧ match o with
  | .left => True
  | .bad => e = .returned (.tuple #[vi 0, .slice none 0 0, .bool false])
  | .fine s => ∃ pv, e = .returned (.tuple #[vi (valP x s), pv, .bool true]) ∧ RSl 4 (RIP w') w' pv (resP s)
/-- The boxes of impl.Evaluate. -/
structure EvB (w0 w : World) (rv mv : Value) (x : LWorld) (vv pvv fv : Value) : Prop where
  fr : Fr [] w0 w
  wb : w.heap[w0.heap.size]? = some (.cells #[rv, vi x.base, vi x.cfa, .int .u64 (x.at_ : Int), mv] 64 (0, 0))
  vb : w.heap[w0.heap.size + 1]? = some (.cells #[vv] 2 (0, 0))
  pb : w.heap[w0.heap.size + 2]? = some (.cells #[pvv] 61 (0, 0))
  fb : w.heap[w0.heap.size + 3]? = some (.cells #[fv] 4 (0, 0))
theorem EvB.frT {w0 w w' : World} {rv mv : Value} {x : LWorld} {vv pvv fv : Value} (h : EvB w0 w rv mv x vv pvv fv) {T : List Nat} (f : FrT T w w') (f0 : Fr [] w0 w') (h1 : 64 ∉ T) (h2 : 2 ∉ T) (h3 : 61 ∉ T) (h4 : 4 ∉ T) : EvB w0 w' rv mv x vv pvv fv :=
  ⟨f0, f.get h.wb h1, f.get h.vb h2, f.get h.pb h3, f.get h.fb h4⟩
theorem EvB.call {w0 w w' : World} {rv mv : Value} {x : LWorld} {vv pvv fv : Value} (h : EvB w0 w rv mv x vv pvv fv) (f : Fr [] w w') : EvB w0 w' rv mv x vv pvv fv :=
  h.frT (T := []) (.of0 f) (h.fr.then f) (by simp) (by simp) (by simp) (by simp)
theorem evB_new (w0 : World) (rv mv : Value) (x : LWorld) : EvB w0 ((((w0.alloc (.cells #[rv, vi x.base, vi x.cfa, .int .u64 (x.at_ : Int), mv] 64)).alloc (.cells #[vi 0] 2)).alloc (.cells #[.slice none 0 0] 61)).alloc (.cells #[.bool false] 4)) rv mv x (vi 0) (.slice none 0 0) (.bool false) := by
  refine ⟨((((Fr.refl _ _).alloc _).alloc _).alloc _).alloc _, blk_alloc (blk_alloc (blk_alloc (blk_new w0 _))), ?_, ?_, ?_⟩
  · have h := blk_new (w0.alloc (.cells #[rv, vi x.base, vi x.cfa, .int .u64 (x.at_ : Int), mv] 64)) (.cells #[vi 0] 2)
    simp only [World.size_alloc] at h
    exact blk_alloc (blk_alloc h)
  · have h := blk_new ((w0.alloc (.cells #[rv, vi x.base, vi x.cfa, .int .u64 (x.at_ : Int), mv] 64)).alloc (.cells #[vi 0] 2)) (.cells #[.slice none 0 0] 61)
    simp only [World.size_alloc] at h
    exact blk_alloc h
  · have h := blk_new (((w0.alloc (.cells #[rv, vi x.base, vi x.cfa, .int .u64 (x.at_ : Int), mv] 64)).alloc (.cells #[vi 0] 2)).alloc (.cells #[.slice none 0 0] 61)) (.cells #[.bool false] 4)
    simp only [World.size_alloc] at h
    exact h
theorem EvB.setV {w0 w : World} {rv mv : Value} {x : LWorld} {vv pvv fv : Value} (h : EvB w0 w rv mv x vv pvv fv) (u : Value) : EvB w0 (w.setCell ⟨w0.heap.size + 1, 0, none⟩ u) rv mv x u pvv fv := by
  have f : FrT [2] w (w.setCell ⟨w0.heap.size + 1, 0, none⟩ u) := (FrT.refl _ _).setCell h.vb (by simp) u
  exact ⟨h.fr.setCell (.inr (by show w0.heap.size ≤ w0.heap.size + 1; omega)) _, f.get h.wb (by decide), blk_set h.vb 0 u, f.get h.pb (by decide), f.get h.fb (by decide)⟩
theorem EvB.setP {w0 w : World} {rv mv : Value} {x : LWorld} {vv pvv fv : Value} (h : EvB w0 w rv mv x vv pvv fv) (u : Value) : EvB w0 (w.setCell ⟨w0.heap.size + 2, 0, none⟩ u) rv mv x vv u fv := by
  have f : FrT [61] w (w.setCell ⟨w0.heap.size + 2, 0, none⟩ u) := (FrT.refl _ _).setCell h.pb (by simp) u
  exact ⟨h.fr.setCell (.inr (by show w0.heap.size ≤ w0.heap.size + 2; omega)) _, f.get h.wb (by decide), f.get h.vb (by decide), blk_set h.pb 0 u, f.get h.fb (by decide)⟩
theorem EvB.setF {w0 w : World} {rv mv : Value} {x : LWorld} {vv pvv fv : Value} (h : EvB w0 w rv mv x vv pvv fv) (u : Value) : EvB w0 (w.setCell ⟨w0.heap.size + 3, 0, none⟩ u) rv mv x vv pvv u := by
  have f : FrT [4] w (w.setCell ⟨w0.heap.size + 3, 0, none⟩ u) := (FrT.refl _ _).setCell h.fb (by simp) u
  exact ⟨h.fr.setCell (.inr (by show w0.heap.size ≤ w0.heap.size + 3; omega)) _, f.get h.wb (by decide), f.get h.vb (by decide), f.get h.pb (by decide), blk_set h.fb 0 u⟩
theorem EvB.res {w0 w : World} {rv mv : Value} {x : LWorld} {vv pvv fv : Value} (h : EvB w0 w rv mv x vv pvv fv) (tmps : Array Value) (k4 : tmps[4]? = some (.pointer (some ⟨w0.heap.size + 1, 0, none⟩))) (k5 : tmps[5]? = some (.pointer (some ⟨w0.heap.size + 1 + 1, 0, none⟩))) (k6 : tmps[6]? = some (.pointer (some ⟨w0.heap.size + 1 + 1 + 1, 0, none⟩))) :
    (results Try.f29 tmps).run Try.prog w = .ok (.tuple #[vv, pvv, fv]) w := res_ok _ _ _ _ _ _ k4 k5 k6 (blk_cell h.vb 0) (blk_cell h.pb 0) (blk_cell h.fb 0)
/-- An answer's piece's bytes, and the pieces' row. -/
def IB (base : Nat) (w : World) (v : Value) (p : LPiece) : Prop := (p.kind = 2 ∧ p.stk = false ∧ w.ownsRow base 5 1 v p.bytes.length (vbs p.bytes)) ∨ (¬ (p.kind = 2 ∧ p.stk = false) ∧ v = .slice none 0 0)
abbrev icell (p : LPiece) (v : Value) : List Value := [vi p.kind, .int .u64 ((u64of p.value : Nat) : Int), vi p.size, v]
def icells (qs : List (LPiece × Value)) : List Value := qs.flatMap fun q => icell q.1 q.2
structure IpR (w0 w : World) (ps : List LPiece) (k : Nat) (v : Value) : Prop where
  le : k ≤ ps.length
  own : ∃ rs, rs.map (·.1) = ps.take k ∧ w.ownsRow w0.heap.size 68 4 v k (icells rs) ∧ ∀ r ∈ rs, IB w0.heap.size w r.2 r.1
theorem IpR.frT {w0 w w' : World} {ps : List LPiece} {k : Nat} {v : Value} (h : IpR w0 w ps k v) {T : List Nat} (f : FrT T w w') (h1 : 68 ∉ T) (h2 : 5 ∉ T) : IpR w0 w' ps k v := by
  obtain ⟨rs, a, b, c⟩ := h.own
  exact ⟨h.le, rs, a, f.own b h1, fun r hr => (c r hr).imp (fun ⟨p, q, o⟩ => ⟨p, q, f.own o h2⟩) id⟩
theorem icells_get (qs : List (LPiece × Value)) : ∀ (i j : Nat) (h : i < qs.length), j < 4 → (icells qs)[i * 4 + j]? = (icell qs[i].1 qs[i].2)[j]? := by
  induction qs with
  | nil => intro i j h; simp at h
  | cons q qs ih =>
    intro i j h hj
    have e : icells (q :: qs) = icell q.1 q.2 ++ icells qs := by simp [icells]
    rw [e]
    cases i with
    | zero => rw [Nat.zero_mul, Nat.zero_add, List.getElem?_append_left (by simpa using hj)]; rfl
    | succ i =>
      rw [List.getElem?_append_right (by simp; omega)]
      have := ih i j (by simpa using h) hj
      have e2 : (i + 1) * 4 + j - (icell q.1 q.2).length = i * 4 + j := by simp; omega
      rw [e2, this]; rfl
theorem IpR.rsl {w0 w : World} {ps : List LPiece} {v : Value} (h : IpR w0 w ps ps.length v) : RSl 4 (RIP w) w v ps := by
  obtain ⟨rs, a, b, c⟩ := h.own
  rw [List.take_length] at a
  have hl : rs.length = ps.length := by rw [← a]; simp
  rcases b.2 with ⟨hv, h0⟩ | ⟨g, cap, cur, hv, hb, hg, hnc, hcm, hcs, htake⟩
  · exact .inl ⟨hv, List.eq_nil_of_length_eq_zero h0⟩
  · refine .inr ⟨⟨g, 0, none⟩, cap, hv, hnc, hcm, fun i hi => ?_⟩
    have hi2 : i < rs.length := by omega
    have e1 : rs[i].1 = ps[i] := by have := List.getElem_map (fun r : LPiece × Value => r.1) (l := rs) (i := i) (h := by simpa using hi2); rw [← this]; simp [a]
    refine ⟨icell rs[i].1 rs[i].2, rfl, ⟨rs[i].2, by rw [e1], ?_⟩, fun j u hu => ?_⟩
    · rw [← e1]
      exact (c _ (List.getElem_mem hi2)).imp (fun ⟨p, q, o⟩ => ⟨p, q, own_sl o⟩) id
    · have hj : j < 4 := by
        rcases Nat.lt_or_ge j 4 with h | h
        · exact h
        · rw [List.getElem?_eq_none (by simpa using h)] at hu; cases hu
      have hx := icells_get rs i j hi2 hj
      rw [hu] at hx
      exact b.cells (g := g) (by rw [hv]; rfl) (i * 4 + j) u hx
theorem OB.frI {base : Nat} {w w' : World} {v : Value} {q : LPiece} (h : OB base w v q) (f : FrT [2] w w') : OB base w' v q :=
  h.imp (fun ⟨h1, h2, h3, h4⟩ => ⟨h1, h2, h3, f.own h4 (by decide)⟩) id
theorem OB.base {base base' : Nat} {w : World} {v : Value} {q : LPiece} (h : OB base w v q) (hb : base' ≤ base) : OB base' w v q :=
  h.imp (fun ⟨h1, h2, h3, h4⟩ => ⟨h1, h2, h3, own_base h4 hb⟩) id
theorem Fr.drew0 {w w' : World} (f : Fr [] w.drew w') : Fr [] w w' := ((Fr.refl [] w).drew).then f
theorem cxs_mk {w0 w5 w6 : World} {rv mv v1 v2 v3 : Value} {x : LWorld} (hB : EvB w0 w5 rv mv x v1 v2 v3) (f : Fr [] w5 w6) {a6 : Option Addr} {c6 b6 : Nat} {code : List UInt8} (ho6 : w6.ownsRow b6 5 1 (.slice a6 code.length c6) code.length (vbs code))
    (hcl : code.length ≤ 100000) (hrn : x.regs.length ≤ 100) {rgv : Value} (hr : ∃ a c, rgv = .slice a x.regs.length c ∧ (0 < x.regs.length → ∃ g, a = some ⟨g, 0, none⟩ ∧ ∀ i (h : i < x.regs.length), ∃ b, w5.cell? ⟨g, i, none⟩ = some (.pointer (some ⟨b, 0, none⟩)) ∧ w5.cell? ⟨b, 0, none⟩ = some (.int .u64 ((x.regs[i] : Nat) : Int))))
    (hrl : ∀ n ∈ x.regs, n < 18446744073709551616) {mb : Nat} {mvv : Value} (hmb : w5.heap[mb]? = some (.cells #[mvv] 23 (0, 0))) (hsm : Sl w5 mvv (vbs x.mem)) (hmn : x.mem.length ≤ 10000) (hat : x.at_ + x.mem.length < 18446744073709551616) :
    CxS { W := w6, code := code, pv := .slice a6 code.length c6, rgv := rgv, cfa := x.cfa, base := x.base, wb := w0.heap.size, mb := mb, mv := mvv } x := by
  obtain ⟨a, c, h1, h2⟩ := hr
  refine ⟨own_sl ho6, fun g hg => (ho6.lt g hg).2, hcl, hrn, ⟨a, c, h1, fun hn => ?_⟩, hrl, f.cell (blk_cell hB.wb 3) (by simp), f.cell (blk_cell hmb 0) (by simp), hsm.fr f (by simp), hmn, hat⟩
  obtain ⟨g, e, h3⟩ := h2 hn
  refine ⟨g, e, fun i hi => ?_⟩
  obtain ⟨b, h4, h5⟩ := h3 i hi
  exact ⟨b, f.cell h4 (by simp), f.cell h5 (by simp)⟩
/-- The registers' row. -/
structure RgR (w0 w : World) (x : LWorld) (k : Nat) (v : Value) : Prop where
  le : k ≤ x.regs.length
  own : ∃ ps, w.ownsRow w0.heap.size 116 1 v k ps ∧ ∀ i, i < k → ∃ b, ps[i]? = some (.pointer (some ⟨b, 0, none⟩)) ∧ w.heap[b]? = some (.cells #[.int .u64 ((x.regs.getD i 0 : Nat) : Int), .slice none 0 0] 161 (0, 0))
theorem RgR.frT {w0 w w' : World} {x : LWorld} {k : Nat} {v : Value} (h : RgR w0 w x k v) {T : List Nat} (f : FrT T w w') (h1 : 116 ∉ T) (h2 : 161 ∉ T) : RgR w0 w' x k v := by
  obtain ⟨ps, h3, h4⟩ := h.own
  refine ⟨h.le, ps, f.own h3 h1, fun i hi => ?_⟩
  obtain ⟨b, h5, h6⟩ := h4 i hi
  exact ⟨b, h5, f.get h6 h2⟩
theorem RgR.regs {w0 w : World} {x : LWorld} {v : Value} (h : RgR w0 w x x.regs.length v) : ∃ a c, v = .slice a x.regs.length c ∧ (0 < x.regs.length → ∃ g, a = some ⟨g, 0, none⟩ ∧ ∀ i (h : i < x.regs.length), ∃ b, w.cell? ⟨g, i, none⟩ = some (.pointer (some ⟨b, 0, none⟩)) ∧ w.cell? ⟨b, 0, none⟩ = some (.int .u64 ((x.regs[i] : Nat) : Int))) := by
  obtain ⟨ps, h3, h4⟩ := h.own
  obtain ⟨a, c, rfl⟩ := own_slice h3
  refine ⟨a, c, rfl, fun hn => ?_⟩
  rcases h3.2 with ⟨-, h0⟩ | ⟨g, cap, cur, hv, hb, hg, hnc, hcm, hcs, htake⟩
  · omega
  · simp only [Value.slice.injEq] at hv
    obtain ⟨rfl, -, rfl⟩ := hv
    refine ⟨g, rfl, fun i hi => ?_⟩
    obtain ⟨b, h5, h6⟩ := h4 i hi
    refine ⟨b, ?_, ?_⟩
    · rw [blk_cell hg i, ← h5, ← htake, List.getElem?_take, if_pos (by omega), Array.getElem?_toList]
    · have := blk_cell h6 0
      simpa [List.getElem?_eq_getElem hi] using this
theorem dr_cells {w : World} {b : Nat} {v0 v1 v2 v3 v4 v5 v6 v7 v8 v9 v10 v11 v12 : Value} {t : Nat} (h : w.heap[b]? = some (.cells #[v0, v1, v2, v3, v4, v5, v6, v7, v8, v9, v10, v11, v12] t (0, 0))) :
    w.cell? ⟨b, 0, none⟩ = some v0 ∧ w.cell? ⟨b, 1, none⟩ = some v1 ∧ w.cell? ⟨b, 2, none⟩ = some v2 ∧ w.cell? ⟨b, 3, none⟩ = some v3 ∧ w.cell? ⟨b, 4, none⟩ = some v4 ∧ w.cell? ⟨b, 5, none⟩ = some v5 ∧ w.cell? ⟨b, 6, none⟩ = some v6 ∧
      w.cell? ⟨b, 7, none⟩ = some v7 ∧ w.cell? ⟨b, 8, none⟩ = some v8 ∧ w.cell? ⟨b, 9, none⟩ = some v9 ∧ w.cell? ⟨b, 10, none⟩ = some v10 ∧ w.cell? ⟨b, 11, none⟩ = some v11 ∧ w.cell? ⟨b, 12, none⟩ = some v12 :=
  ⟨blk_cell h 0, blk_cell h 1, blk_cell h 2, blk_cell h 3, blk_cell h 4, blk_cell h 5, blk_cell h 6, blk_cell h 7, blk_cell h 8, blk_cell h 9, blk_cell h 10, blk_cell h 11, blk_cell h 12⟩
/-- Behind the machine's run: its answer in the boxes. -/
def EvX (w0 : World) (rv mv : Value) (x : LWorld) (o : Out) (s13 s14 : Value) (w : World) : Prop :=
  (o = .bad ∧ s13 = .slice none 0 0 ∧ (∃ t u, s14 = .iface t u) ∧ EvB w0 w rv mv x (vi 0) (.slice none 0 0) (.bool false)) ∨
  (∃ s qs, o = .fine s ∧ s14 = .nilIface ∧ EvB w0 w rv mv x (vi (valP x s)) (.slice none 0 0) (.bool false) ∧ w.ownsRow w0.heap.size 133 4 s13 (resP s).length (ocells qs) ∧ qs.map (·.1) = resP s ∧ ∀ q ∈ qs, OB w0.heap.size w q.2 q.1)
/-- Execute's answer, as one shape. -/
def XP (D : CxD) (x : LWorld) (o : Out) (v1 : Int) (s13 s14 : Value) (w : World) : Prop :=
  (o = .bad ∧ v1 = 0 ∧ s13 = .slice none 0 0 ∧ ∃ t u, s14 = .iface t u) ∨
  (∃ s qs, o = .fine s ∧ v1 = valP x s ∧ s14 = .nilIface ∧ w.ownsRow D.W.heap.size 133 4 s13 (resP s).length (ocells qs) ∧ qs.map (·.1) = resP s ∧ ∀ q ∈ qs, OB D.W.heap.size w q.2 q.1)
theorem ExecP.shape {D : CxD} {x : LWorld} {o : Out} {e : Ending} {w : World} (h : ExecP D x o e w) :
    (∃ t u, e = .panicked [{ v := .iface t u, recovered := false }] ∧ o = .bad ∧ Fr [] D.W w) ∨ ∃ v1 s13 s14, e = .returned (.tuple #[vi v1, s13, s14]) ∧ Fr [] D.W w ∧ XP D x o v1 s13 s14 w := by
  rcases h with ⟨h1, (⟨t, u, h2⟩ | ⟨t, u, h2⟩), h3⟩ | ⟨s, qv, qs, h1, h2, h3, h4, h5, h6⟩
  · exact .inr ⟨0, _, _, h2, h3, .inl ⟨h1, rfl, rfl, t, u, rfl⟩⟩
  · exact .inl ⟨t, u, h2, h1, h3⟩
  · exact .inr ⟨_, _, _, h2, h3, .inr ⟨s, qs, h1, rfl, rfl, h4, h5, h6⟩⟩
theorem XP.toX {w0 w : World} {D : CxD} {rv mv : Value} {x : LWorld} {o : Out} {v1 : Int} {s13 s14 : Value} (hX : XP D x o v1 s13 s14 w) (hB : EvB w0 w rv mv x (vi 0) (.slice none 0 0) (.bool false)) (hb : w0.heap.size ≤ D.W.heap.size) :
    EvX w0 rv mv x o s13 s14 (w.setCell ⟨w0.heap.size + 1, 0, none⟩ (vi v1)) := by
  rcases hX with ⟨h1, rfl, h3, h4⟩ | ⟨s, qs, h1, rfl, h3, h4, h5, h6⟩
  · exact .inl ⟨h1, h3, h4, hB.setV _⟩
  · refine .inr ⟨s, qs, h1, h3, hB.setV _, ?_, h5, fun q hq => ?_⟩
    · exact ((FrT.refl [2] w).setCell hB.vb (by simp) _).own (own_base h4 hb) (by decide)
    · exact OB.frI (OB.base (h6 q hq) hb) ((FrT.refl [2] w).setCell hB.vb (by simp) _)
theorem slicePD : SliceT Try.prog 115 116 (.pointer none) 1 8 := ⟨Try.underlying115, by kernel_rfl, rfl, by decide⟩
theorem sliceIP : SliceT Try.prog 61 68 (.agg #[.int .i64 0, .int .u64 0, .int .i64 0, .slice none 0 0]) 4 48 := ⟨Try.underlying61, by kernel_rfl, rfl, by decide⟩

end Go.Proofs.Ytahohmdfllgedaa

namespace Go.Proofs.Ytahohmdfllgedaa

structure PcOk (p : LPiece) : Prop where
  kind : p.kind = 0 ∨ p.kind = 1 ∨ p.kind = 2
  len : p.bytes.length ≤ 64
  imm : p.kind = 2 → p.stk = false → p.size = (p.bytes.length : Int)
  stk : p.kind = 2 → p.stk = true → p.size = 0 ∨ (0 ≤ p.size ∧ p.size ≤ 8 ∧ p.bytes = leL (u64of p.value) p.size.toNat)
structure StOk (s : LSt) : Prop where
  pcs : ∀ p ∈ s.pieces, PcOk p
  loc : ∀ p, s.loc = some p → PcOk p
theorem StOk.same {s s' : LSt} (h : StOk s) (h1 : s'.pieces = s.pieces) (h2 : s'.loc = s.loc) : StOk s' := ⟨by rw [h1]; exact h.pcs, by rw [h2]; exact h.loc⟩
theorem popS_loc (s : LSt) : (popS s).2.loc = s.loc := by unfold popS; split <;> rfl
theorem loadS_loc (x : LWorld) (a n : Nat) (s : LSt) : (loadS x a n s).2.loc = s.loc := by unfold loadS; split <;> rfl
theorem registerS_loc (x : LWorld) (n : Int) (s : LSt) : (registerS x n s).2.loc = s.loc := by unfold registerS; split <;> rfl
theorem shiftS_loc (op a b : Int) (s : LSt) : (shiftS op a b s).loc = s.loc := by
  unfold shiftS
  repeat' (refine iteInduction (motive := fun y : LSt => y.loc = s.loc) ?_ ?_ <;> intro _)
  all_goals rfl
theorem twoS_loc (op a b : Int) (s : LSt) : (twoS op a b s).loc = s.loc := by
  unfold twoS
  repeat' (refine iteInduction (motive := fun y : LSt => y.loc = s.loc) ?_ ?_ <;> intro _)
  all_goals first | rfl | exact shiftS_loc _ _ _ _
theorem operateS_loc (x : LWorld) (c : LCall) (s : LSt) : (operateS x c s).loc = s.loc := by
  unfold operateS
  repeat' (refine iteInduction (motive := fun y : LSt => y.loc = s.loc) ?_ ?_ <;> intro _)
  all_goals first | rfl | (simp [pushS, LSt.mkBad, LSt.mkLeft, popS_loc, loadS_loc]) | (rw [twoS_loc, popS_loc, popS_loc])
theorem pieceS_ok {n : Int} {s : LSt} (h : StOk s) (hn : 0 ≤ n) (hl : (pieceS n s).left = false) : StOk (pieceS n s) := by
  unfold pieceS at hl ⊢
  split at hl
  · cases hl
  · rename_i hn0
    rw [if_neg hn0]
    cases hloc : s.loc with
    | none =>
      simp only [hloc] at hl ⊢
      split at hl
      · rename_i h1
        rw [if_pos h1]
        refine ⟨fun p hp => ?_, fun p hp => h.loc p ((popS_loc s).symm.trans hp)⟩
        rcases List.mem_append.1 hp with hp | hp
        · exact h.pcs p hp
        · simp at hp; subst hp
          exact ⟨.inl rfl, by simp, by simp, by simp⟩
      · cases hl
    | some p =>
      simp only [hloc] at hl ⊢
      have hp0 := h.loc p hloc
      refine ⟨fun q hq => ?_, fun q hq => by cases hq⟩
      rcases List.mem_append.1 hq with hq | hq
      · exact h.pcs q hq
      · simp only [List.mem_singleton] at hq
        subst hq
        have hl2 : ¬ ((pieceOf n p).kind = 2 ∧ (pieceOf n p).size ≠ n) := by
          intro hh; simp [hh] at hl
        unfold pieceOf at hl2 ⊢
        by_cases hs : p.stk = true ∧ n ≤ 8
        · simp only [hs, and_self, if_true] at hl2 ⊢
          refine ⟨hp0.kind, by simp [leL_length]; omega, fun _ hst => ?_, fun _ _ => .inr ⟨hn, hs.2, rfl⟩⟩
          cases hst
        · simp only [hs, if_false] at hl2 ⊢
          refine ⟨hp0.kind, hp0.len, fun hk hst => ?_, fun hk hst => ?_⟩
          · have e : p.size = n := by
              rcases Classical.em (p.size = n) with e | e
              · exact e
              · exact absurd ⟨hk, e⟩ hl2
            rw [← e]; exact hp0.imm hk hst
          · have e : p.size = n := by
              rcases Classical.em (p.size = n) with e | e
              · exact e
              · exact absurd ⟨hk, e⟩ hl2
            show n = 0 ∨ _
            rw [← e]; exact hp0.stk hk hst
theorem placeS_ok {p : LPiece} {s : LSt} (h : StOk s) (hp : PcOk p) : StOk (placeS p s) := by
  unfold placeS
  split
  · exact ⟨h.pcs, fun q hq => by cases hq; exact hp⟩
  · exact h.same rfl rfl
theorem doS_ok {x : LWorld} {c : LCall} {s : LSt} (h : StOk s) (hk : knownB c.op c.a c.data.length = true) (hl : (doS x c s).left = false) : StOk (doS x c s) := by
  have hd := known_len hk
  revert hl
  unfold doS
  refine iteInduction (motive := fun y : LSt => y.left = false → StOk y) (fun _ hl => by cases hl) (fun _ => ?_)
  refine iteInduction (motive := fun y : LSt => y.left = false → StOk y) (fun _ _ => h.same rfl rfl) (fun _ => ?_)
  refine iteInduction (motive := fun y : LSt => y.left = false → StOk y) (fun _ _ => placeS_ok h ⟨.inr (.inl rfl), by simp, by simp, by simp⟩) (fun _ => ?_)
  refine iteInduction (motive := fun y : LSt => y.left = false → StOk y) (fun _ _ => h.same (registerS_pcs _ _ _) (registerS_loc _ _ _)) (fun _ => ?_)
  refine iteInduction (motive := fun y : LSt => y.left = false → StOk y) (fun _ _ => placeS_ok h ⟨.inr (.inl rfl), by simp, by simp, by simp⟩) (fun _ => ?_)
  refine iteInduction (motive := fun y : LSt => y.left = false → StOk y) (fun _ _ => h.same (registerS_pcs _ _ _) (registerS_loc _ _ _)) (fun _ => ?_)
  refine iteInduction (motive := fun y : LSt => y.left = false → StOk y) (fun _ _ => h.same rfl rfl) (fun _ => ?_)
  refine iteInduction (motive := fun y : LSt => y.left = false → StOk y) (fun _ _ => by refine h.same ?_ ?_ <;> (simp only [pushS]; split <;> rfl)) (fun _ => ?_)
  refine iteInduction (motive := fun y : LSt => y.left = false → StOk y) (fun _ _ => h.same rfl rfl) (fun _ => ?_)
  refine iteInduction (motive := fun y : LSt => y.left = false → StOk y) (fun _ _ => placeS_ok h ⟨.inr (.inr rfl), by simpa using hd, fun _ _ => rfl, fun _ h => by cases h⟩) (fun _ => ?_)
  refine iteInduction (motive := fun y : LSt => y.left = false → StOk y) (fun _ _ => placeS_ok (h.same (popS_pcs _) (popS_loc _)) ⟨.inr (.inr rfl), by simp, fun _ h => (by cases h), fun _ _ => .inl rfl⟩) (fun _ => ?_)
  refine iteInduction (motive := fun y : LSt => y.left = false → StOk y) (fun h11 hl => by rw [h11] at hk; exact pieceS_ok h (known_147 hk).1 hl) (fun _ => ?_)
  refine iteInduction (motive := fun y : LSt => y.left = false → StOk y) (fun _ _ => h) (fun _ => ?_)
  exact fun _ => h.same (operateS_len _ _ _).2 (operateS_loc _ _ _)
theorem jumpS_loc (c : LCall) (s : LSt) : (jumpS c s).2.2.loc = s.loc := by
  unfold jumpS
  repeat' (refine iteInduction (motive := fun y : Int × Bool × LSt => y.2.2.loc = s.loc) ?_ ?_ <;> intro _)
  all_goals first | rfl | exact popS_loc s
theorem stepS_ok {x : LWorld} {c : LCall} {k : Nat} {s : LSt} (h : StOk s) (hk : knownB c.op c.a c.data.length = true) (hl : (stepS x c k s).2.left = false) : StOk (stepS x c k s).2 := by
  unfold stepS at hl ⊢
  split at hl
  · cases hl
  · rename_i h0; rw [if_neg h0]
    split at hl
    · rename_i h1; rw [if_pos h1]; exact h.same (jumpS_len _ _).2 (jumpS_loc _ _)
    · rename_i h1; rw [if_neg h1]
      exact doS_ok (h.same (jumpS_len _ _).2 (jumpS_loc _ _)) hk hl
theorem runS_ok {x : LWorld} {l : List LCall} (hkn : ∀ c ∈ l, knownB c.op c.a c.data.length = true) : ∀ (f k : Nat) (s s' : LSt), StOk s → runS x l f k s = .fine s' → StOk s' ∧ s'.pieces.length ≤ s.pieces.length + f := by
  intro f
  induction f with
  | zero =>
    intro k s s' h hr
    by_cases hk : k < l.length
    · rw [runS_zero hk] at hr; cases hr
    · rw [runS_end hk] at hr
      unfold finishS at hr
      repeat' split at hr
      all_goals first | (cases hr; done) | (simp only [Out.fine.injEq] at hr; subst hr; exact ⟨h, Nat.le_refl _⟩)
  | succ f ih =>
    intro k s s' h hr
    by_cases hk : k < l.length
    · rw [runS_succ hk] at hr
      split at hr
      · cases hr
      · rename_i hl
        split at hr
        · cases hr
        · have hg := stepS_len x l[k] (k + 1) s
          obtain ⟨h1, h2⟩ := ih _ _ _ (stepS_ok h (hkn _ (List.getElem_mem hk)) (by simpa using hl)) hr
          exact ⟨h1, by have := hg.2; omega⟩
    · rw [runS_end hk] at hr
      unfold finishS at hr
      repeat' split at hr
      all_goals first | (cases hr; done) | (simp only [Out.fine.injEq] at hr; subst hr; exact ⟨h, Nat.le_add_right _ _⟩)
/-- The pieces that an evaluation answers with. -/
theorem evalS_ok {x : LWorld} {l : List LCall} {n : Nat} {s : LSt} (hkn : ∀ c ∈ l, knownB c.op c.a c.data.length = true) (h : evalS x l n = .fine s) : (resP s).length ≤ 1000000 ∧ ∀ p ∈ resP s, PcOk p := by
  have h0 : StOk st0 := ⟨by simp [st0], by simp [st0]⟩
  obtain ⟨h1, h2⟩ := runS_ok hkn _ _ _ _ h0 h
  have hf : fuelOf n ≤ 501 := by unfold fuelOf; omega
  simp [st0] at h2
  unfold resP
  split
  · exact ⟨by omega, h1.pcs⟩
  · cases hl : s.loc with
    | none => simp
    | some p => simp; exact h1.loc p hl
end Go.Proofs.Ytahohmdfllgedaa
