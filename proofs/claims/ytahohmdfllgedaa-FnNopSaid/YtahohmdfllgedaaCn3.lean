/- The machine: memory, deref. Printed by gen_eop5.py. -/
import Derived.Test.YtahohmdfllgedaaCn2
set_option linter.unusedVariables false
set_option linter.unusedSimpArgs false
namespace Go.Proofs.Ytahohmdfllgedaa
open Go.RowKit

/-- copy over a whole row, in a list of operations. -/
theorem wpList_copyB {ops : Array Oper} {rest : List Oper} {o : Oper} {a : Act} {w : World} {Q : Exit → Act → World → Prop} (hgd : o.guard = none) (d s : Operand)
    (ho : o.op = .call { callee := .builtin .copy, args := #[d, s], argTypes := #[23, 23] }) (g dCap : Nat) (sp : Option Addr) (m sLen sCap : Nat)
    (hd : a.eval d = .slice (some ⟨g, 0, none⟩) m dCap) (hs : a.eval s = .slice sp sLen sCap) (cur : Array Value) (hg : w.heap[g]? = some (.cells cur 5 (0, 0))) (hcur : cur.size = m)
    (l : List UInt8) (hl : l.length = m) (hsl : m ≤ sLen) (ad : Addr) (hsp : sp = some ad) (hsrc : ∀ j v, (vbs l)[j]? = some v → w.cell? (ad.add j) = some v)
    (h : ∀ w', w'.heap[g]? = some (.cells (vbs l).toArray 5 (0, 0)) → Fr [g] w w' → wpList Try.prog ops Q rest (a.put o.dst (.int .i64 (m : Int))) w') :
    wpList Try.prog ops Q (o :: rest) a w := by
  refine wpList_plain hgd fun K hK => ?_
  subst hsp
  have hn : (vbs l).length = Nat.min sLen m := by rw [List.length_map, hl, Nat.min_eq_min]; omega
  have hrun := run_copy_row (P := Try.prog) w 23 23 o.type 5 g 0 m dCap ad sLen sCap cur 5 (vbs l) Try.underlying23 (by kernel_rfl) hg hn hsrc (by simp; omega) (vbs_one l)
  unfold Oper.wp
  simp [execOp, ho, resolve, invoke, builtin, hd, hs, hrun, Result.andThen]
  have e : (List.map vb l ++ List.drop l.length cur.toList) = vbs l := by
    rw [List.drop_of_length_le (by simp; omega), List.append_nil]
  rw [e, hl]
  exact hK _ _ (h _ (setRow_heap w g _ _ _ _ hg) ⟨rfl, rfl, rfl, by simp [World.setRow], fun k hk hn => setRow_other w g k _ (by simpa using hn)⟩)

def MemBad (w : World) (e : Ending) (w' : World) : Prop := (∃ t u, e = .returned (.tuple #[vi 0, .iface t u])) ∧ Fr [] w w'
set_option maxRecDepth 100000 in
set_option maxHeartbeats 2000000 in
theorem mem_bad (D : CxD) (x : LWorld) (hS : CxS D x) (w : World) (f : Fr [] D.W w) (ba : Option Addr) (m bc a : Nat) (ha : a < 18446744073709551616) (hm : m ≤ 8)
    (hr : ¬ (x.at_ ≤ a ∧ a - x.at_ ≤ x.mem.length ∧ m ≤ x.mem.length - (a - x.at_))) :
    Calls Try.prog 60 #[.slice ba m bc, .int .u64 (a : Int), .pointer (some ⟨D.wb, 0, none⟩), .pointer (some ⟨D.mb, 0, none⟩)] w (MemBad w) := by
  obtain ⟨ma, mc, hmv, -⟩ := sl_len hS.mm
  simp only [List.length_map] at hmv
  have c3 : w.cell? ⟨D.wb, 3, none⟩ = some (.int .u64 (x.at_ : Int)) := f.cell hS.cat_ (by simp)
  have cm : w.cell? ⟨D.mb, 0, none⟩ = some (.slice ma x.mem.length mc) := by rw [← hmv]; exact f.cell hS.cmm (by simp)
  have hml := hS.mlen
  clear hS hmv f
  generalize x.mem.length = N at *
  generalize x.at_ = T at *
  have eN : IntKind.u64.wrap (N : Int) = (N : Int) := by rw [IntKind.wrap_u64]; omega
  have em : IntKind.u64.wrap (m : Int) = (m : Int) := by rw [IntKind.wrap_u64]; omega
  by_cases h1 : a < T
  · have t1 : decide ((a : Int) < (T : Int)) = true := by simp; omega
    clear eN em
    go_enter Try.func60, Try.ntmps60
    go_wp2_with (go_at_call 61; go_must (refine (errorsNew_any _ _).mono ?_); rintro e w7 ⟨⟨t7, x7, rfl⟩, hf7⟩; have F7 := Lib.hid hf7; clear hf7)
    go_ret2
    exact ⟨⟨_, _, rfl⟩, F7.out⟩
  · have t1 : decide ((a : Int) < (T : Int)) = false := by simp; omega
    obtain ⟨d, hd⟩ : ∃ d, a = T + d := ⟨a - T, by omega⟩
    have ed : IntKind.u64.wrap ((a : Int) - (T : Int)) = (d : Int) := by rw [IntKind.wrap_u64]; omega
    by_cases h2 : N < d
    · have t2 : decide ((N : Int) < (d : Int)) = true := by simp; omega
      clear em
      go_enter Try.func60, Try.ntmps60
      go_wp2_with (go_at_call 61; go_must (refine (errorsNew_any _ _).mono ?_); rintro e w7 ⟨⟨t7, x7, rfl⟩, hf7⟩; have F7 := Lib.hid hf7; clear hf7)
      go_ret2
      exact ⟨⟨_, _, rfl⟩, F7.out⟩
    · have t2 : decide ((N : Int) < (d : Int)) = false := by simp; omega
      obtain ⟨r, hrd⟩ : ∃ r, N = d + r := ⟨N - d, by omega⟩
      have er : IntKind.u64.wrap ((N : Int) - (d : Int)) = (r : Int) := by rw [IntKind.wrap_u64]; omega
      have t3 : r < m := by omega
      clear hd hrd
      go_enter Try.func60, Try.ntmps60
      go_wp2_with (go_at_call 61; go_must (refine (errorsNew_any _ _).mono ?_); rintro e w7 ⟨⟨t7, x7, rfl⟩, hf7⟩; have F7 := Lib.hid hf7; clear hf7)
      go_ret2
      exact ⟨⟨_, _, rfl⟩, F7.out⟩

set_option maxRecDepth 100000 in
set_option maxHeartbeats 2000000 in
theorem mem_ok (D : CxD) (x : LWorld) (hS : CxS D x) (w : World) (f : Fr [] D.W w) (g m a : Nat) (C : Array Value) (ha : a < 18446744073709551616) (hm : m ≤ 8) (hm0 : 0 < m) (hg : w.heap[g]? = some (.cells C 5 (0, 0))) (hC : C.size = m)
    (h1 : x.at_ ≤ a) (h2 : a - x.at_ ≤ x.mem.length) (h3 : m ≤ x.mem.length - (a - x.at_)) :
    Calls Try.prog 60 #[.slice (some ⟨g, 0, none⟩) m m, .int .u64 (a : Int), .pointer (some ⟨D.wb, 0, none⟩), .pointer (some ⟨D.mb, 0, none⟩)] w fun e w' =>
      e = .returned (.tuple #[vi (m : Int), .nilIface]) ∧ w'.heap[g]? = some (.cells (vbs ((x.mem.drop (a - x.at_)).take m)).toArray 5 (0, 0)) ∧ Fr [g] w w' := by
  obtain ⟨gm, om, mc, hmv, hc1, hc2, hcs⟩ := sl_some hS.mm (by simp; omega)
  simp only [List.length_map] at hmv hc1
  have c3 : w.cell? ⟨D.wb, 3, none⟩ = some (.int .u64 (x.at_ : Int)) := f.cell hS.cat_ (by simp)
  have cm : w.cell? ⟨D.mb, 0, none⟩ = some (.slice (some ⟨gm, om, none⟩) x.mem.length mc) := by rw [← hmv]; exact f.cell hS.cmm (by simp)
  have hml := hS.mlen
  have Hcs := Lib.hid (hcs.fr f (by simp))
  have Hg := Lib.hid hg
  have HC := Lib.hid hC
  unfold maxLen at hc2
  clear hS hmv hcs hg hC
  obtain ⟨d, hd⟩ : ∃ d, a = x.at_ + d := ⟨a - x.at_, by omega⟩
  have ed : a - x.at_ = d := by omega
  rw [ed] at h2 h3 ⊢
  have Hl : Hid (((x.mem.drop d).take m).length = m) := by show _ = _; rw [List.length_take, List.length_drop]; omega
  have Hsrc : Hid (∀ j v, (vbs ((x.mem.drop d).take m))[j]? = some v → w.cell? ((⟨gm, om + d, none⟩ : Addr).add j) = some v) := fun j v hj => by
    rw [Addr.add_lit]
    exact drop_take_cells Hcs.out d m j v hj
  generalize hN : x.mem.length = N at *
  generalize x.at_ = T at *
  obtain ⟨L, hL⟩ : ∃ L, (x.mem.drop d).take m = L := ⟨_, rfl⟩
  rw [hL] at Hl Hsrc ⊢
  clear hN hL ed f
  have eN : IntKind.u64.wrap (N : Int) = (N : Int) := by rw [IntKind.wrap_u64]; omega
  have em : IntKind.u64.wrap (m : Int) = (m : Int) := by rw [IntKind.wrap_u64]; omega
  have t1 : T ≤ a := h1
  have t1' : decide (a < T) = false := by simp; omega
  have ed : IntKind.u64.wrap ((a : Int) - (T : Int)) = (d : Int) := by rw [IntKind.wrap_u64]; omega
  have t2 : d ≤ N := by omega
  have t2' : decide (N < d) = false := by simp; omega
  obtain ⟨r, hrd⟩ : ∃ r, N = d + r := ⟨N - d, by omega⟩
  have er : IntKind.u64.wrap ((N : Int) - (d : Int)) = (r : Int) := by rw [IntKind.wrap_u64]; omega
  have t3 : m ≤ r := by omega
  have t3' : decide (r < m) = false := by simp; omega
  have u1 : (0 : Int) ≤ (d : Int) := by omega
  have u2 : (d : Int) ≤ (N : Int) := by omega
  have u3 : (d : Int) ≤ (mc : Int) := by omega
  have u4 : ¬ mc = d := by omega
  have Hsl : Hid (m ≤ N - d) := by show _ ≤ _; omega
  clear hd hrd h1 h2 h3
  go_enter Try.func60, Try.ntmps60
  go_wp2_with (with_reducible refine wpList_copyB (o := ⟨some 44, _, _, _, _, _⟩) rfl _ _ rfl g m (some ⟨gm, om + d, none⟩) m (N - d) (mc - d) rfl rfl C Hg.out HC.out L Hl.out Hsl.out ⟨gm, om + d, none⟩ rfl Hsrc.out ?_)
  intro w2 hg2 hf2
  have Hg2 := Lib.hid hg2
  have Hf2 := Lib.hid hf2
  clear hg2 hf2
  go_wp2_with fail
  go_ret2
  exact ⟨rfl, Hg2.out, Hf2.out⟩

set_option maxRecDepth 100000 in
set_option maxHeartbeats 4000000 in
theorem oderef_6_8 (D : CxD) (cb : Nat) (w : World) (k : List Int) (ps : List LPiece) (x : LWorld) (p : Nat) (y : Int) (a : Nat) (z : Nat) (bs : List UInt8) (hS : CxS D x) (h : CxR D cb w (k ++ [y]) ps p) (hk : k.length ≤ 1000000) (hau : IntKind.u64.wrap y = (a : Int)) (hal : a < 18446744073709551616) (h1 : x.at_ ≤ a) (h2 : a - x.at_ ≤ x.mem.length) (h3 : 8 ≤ x.mem.length - (a - x.at_)) (hbs : (x.mem.drop (a - x.at_)).take 8 = bs) (hz : leval bs = z) :
    Calls Try.prog 89 #[.int .u8 6, .pointer (some ⟨cb, 0, none⟩)] w (OkP D cb (k ++ [wrap64 (z : Int)]) ps p) := by
  have Hau := Lib.hid hau
  have Hal := Lib.hid hal
  clear hau hal
  obtain ⟨bb, bv, bl, off, rd, kv, qv, qs, hv⟩ := h
  have hl : (k ++ [y]).length = k.length + 1 := by simp
  obtain ⟨g, kc, rfl, hk1, hk2, hc⟩ := own_vis hv.own (by omega)
  have cx : w.cell? ⟨g, k.length, none⟩ = some (vi y) := by rw [hc k.length (by omega)]; simp
  rw [hl] at hv
  have c0 : w.cell? ⟨cb, 0, none⟩ = some (.pointer (some ⟨bb, 0, none⟩)) := hv.cell 0
  have c2 : w.cell? ⟨cb, 2, none⟩ = some (.slice (some ⟨g, 0, none⟩) (k.length + 1) kc) := hv.cell 2
  have c4 : w.cell? ⟨cb, 4, none⟩ = some (vi 8) := hv.cell 4
  have c18 : w.cell? ⟨cb, 18, none⟩ = some D.rf := hv.cell 18
  have f2 := hv.free 2
  have Hv := Lib.hid hv
  have SZ := hv.fr.size
  unfold maxLen at hk2
  rw [hl] at hk1
  have e1 : IntKind.i64.wrap (k.length : Int) = (k.length : Int) := IntWalk.i64_in _ (by omega)
  have e2 : (0 : Int) ≤ (k.length : Int) := by omega
  have e3 : (k.length : Int) ≤ (kc : Int) := by omega
  have e5 : (k.length : Int) < (k.length : Int) + 1 := by omega
  have q0 : (((k.length : Int) + 1) == 0) = false := by rw [beq_eq_false_iff_ne]; omega
  have hgb : g ≠ bb := by have := hv.kv_ne.2; simp [Value.ownBlock] at this; exact this
  have qF : ∀ w, (binOp .eql 165 D.rf .nilFunc).run Try.prog w = .ok (.bool false) w := fun _ => by kernel_rfl
  have HS := Lib.hid hS
  have hau := Hau.out
  clear hc hl hS
  obtain ⟨C, hC, hmk⟩ := make_bytes .i64 8 (by omega)
  have hmk0 : ∀ w, (Instr.makeSlice 23 (.int .i64 8) (.int .i64 8)).run Try.prog w = .ok (.slice (some ⟨w.heap.size, 0, none⟩) 8 8) (w.alloc (.cells C 5)) := hmk
  have HCs := Lib.hid hC
  clear hmk hC
  have Hbs := Lib.hid hbs
  have Hz := Lib.hid hz
  have Hb3 := Lib.hid (And.intro h1 (And.intro h2 h3))
  have Hbl : Hid (bs.length = 8) := by show _ = _; rw [← hbs, List.length_take, List.length_drop]; omega
  have zb : z < 18446744073709551616 := by rw [← hz]; exact Nat.lt_of_lt_of_le (leval_lt bs) (by rw [Hbl.out]; decide)
  have hw0 : IntKind.u64.wrap (z : Int) = (z : Int) := by rw [IntKind.wrap_u64]; omega
  have hw1 : IntKind.i64.wrap (z : Int) = wrap64 (z : Int) := IntWalk.i64_left _
  clear hbs hz h1 h2 h3
  clear hv
  go_enter Try.func89, Try.ntmps89
  go_upto_region 9 with fail
  have HC : Hid (∀ n, CxV D cb ((w.drewN n).setCell ⟨cb, 2, none⟩ (.slice (some ⟨g, 0, none⟩) k.length kc)) k ps p bb bv bl off rd (.slice (some ⟨g, 0, none⟩) k.length kc) qv qs) := fun n => Hv.out.cutL ((Fr.refl _ _).drewN _) (by simp)
  go_wp2_with fail
  go_quiet (fail)
  go_wp2_with fail
  go_region_law (fail)
  all_goals
    go_upto_region 17 with fail
    have hv3 := HC.out (nq + 1)
    generalize World.setCell (World.drewN w (nq + 1)) ⟨cb, 2, none⟩ (.slice (some ⟨g, 0, none⟩) k.length kc) = w3 at *
    have Hv3 := Lib.hid hv3
    have d18 : ∀ o, (w3.alloc o).cell? ⟨cb, 18, none⟩ = some D.rf := fun o => ((Fr.refl [] w3).alloc o).cell (hv3.cell 18) (by simp)
    clear hv3 HC
    go_upto_region 19 with (go_at_call 60; go_must (refine (mem_ok D x HS.out _ (Hv3.out.fr.alloc _) w3.heap.size 8 a C Hal.out (by decide) (by decide) (blk_new w3 _) HCs.out Hb3.out.1 Hb3.out.2.1 Hb3.out.2.2).mono ?_); rw [Hbs.out]; rintro e w4 ⟨rfl, hg4, hf4⟩; have F4 : Hid (Fr [] w3 w4) := ((Fr.refl [] w3).alloc _).trans hf4 (fun i hi hlt => by simp at hi hlt; omega); have Hs4 : Hid (Sl w4 (.slice (some ⟨w3.heap.size, 0, none⟩) 8 8) (vbs bs)) := own_sl (own_blk (base := 0) (n := 8) (c := 8) hg4 (by simp [Hbl.out]) rfl (Nat.zero_le _) (by omega)); have Hlt4 : Hid (w3.heap.size < w4.heap.size) := lt_heap hg4; clear hg4 hf4)
    have Hv4 := Lib.hid (Hv3.out.call F4.out)
    clear d18
    go_wp2_with (go_at_call 119; go_must (refine (NewReader_any _ _ _ _).mono ?_); rintro e w5 ⟨rfl, hw5⟩; have F5 : Hid (Fr [] w4 w5) := (by rw [hw5]; exact (Fr.refl [] w4).alloc _); have HR5 : Hid (SrcR false w5 w4.heap.size (.slice (some ⟨w3.heap.size, 0, none⟩) 8 8) bs 0) := (by rw [hw5]; exact RdrR_new (w := w4) Hs4.out (fun g hg => by simp [Value.ownBlock] at hg; have := Hlt4.out; omega) (by rw [Hbl.out]; decide)); have Hsz5 : Hid (w5.heap.size = w4.heap.size + 1) := (by rw [hw5]; simp [Hid]); clear hw5)
    go_wp2_with (first | (go_at_call 124; go_must (refine (ReadUintRaw_8 false w4.heap.size (.slice (some ⟨w3.heap.size, 0, none⟩) 8 8) bs 0 _ HR5.out (by rw [Hbl.out]; decide) (by have := Hsz5.out; omega) (fun g hg => by simp [Value.ownBlock] at hg; have := Hlt4.out; have := Hsz5.out; omega)).mono ?_); rw [List.drop_zero, List.take_of_length_le (by rw [Hbl.out]; decide), Hz.out]; rintro e w6 ⟨rfl, hb6, hf6⟩; have F6 : Hid (Fr [] w4 w6) := F5.out.trans hf6 (fun i hi hlt => by simp at hi; subst hi; omega); clear hb6 hf6; have Hv6 := Lib.hid (Hv4.out.call F6.out); have d6 : w6.cell? ⟨cb, 2, none⟩ = some (.slice (some ⟨g, 0, none⟩) k.length kc) := Hv6.out.cell 2; have x6 := Hv6.out.free 2; have SZ6 := Hv6.out.fr.size) | (at_builtin; go_must (refine wpList_app4 sliceI64 _ rfl _ _ rfl D.W.heap.size _ k.length (vis k) rfl (Hv6.out.ow (by first | exact ((Fr.refl [] _).alloc _) | exact ((Fr.refl [] _).alloc _).drew | exact ((Fr.refl [] _).drew).alloc _ | exact (((Fr.refl [] _).drewN _).alloc _) | exact ((((Fr.refl [] _).drewN _).alloc _).drew) | exact ((((Fr.refl [] _).drewN _).drew).alloc _))) (some ⟨w6.heap.size, 0, none⟩) 1 1 [_] rfl rfl (fun h => by cases h) (news_one rfl _ _) (by simp [Value.oneCell']) (by omega) (by decide) (by simp; omega) ?_); intro a8 c8' w8 ho8 hf8 hg8 ht8; have HP := Lib.hid (Hv6.out.pushed (by first | exact ((Fr.refl [] _).alloc _) | exact ((Fr.refl [] _).alloc _).drew | exact ((Fr.refl [] _).drew).alloc _ | exact (((Fr.refl [] _).drewN _).alloc _) | exact ((((Fr.refl [] _).drewN _).alloc _).drew) | exact ((((Fr.refl [] _).drewN _).drew).alloc _)) hf8 ht8 ho8); have hb8 := Hv6.out.app (by first | exact ((Fr.refl [] _).alloc _) | exact ((Fr.refl [] _).alloc _).drew | exact ((Fr.refl [] _).drew).alloc _ | exact (((Fr.refl [] _).drewN _).alloc _) | exact ((((Fr.refl [] _).drewN _).alloc _).drew) | exact ((((Fr.refl [] _).drewN _).drew).alloc _)) ht8; have s2 : w8.cell? ⟨cb, 2, none⟩ = some (.slice (some ⟨g, 0, none⟩) k.length kc) := blk_cell hb8 2; have z2 : w8.frozen? ⟨cb, 2, none⟩ = false := blk_free hb8 2; clear ho8 hf8 hg8 ht8 hb8))
    go_wp2_with fail
    go_ret
    exact ⟨rfl, HP.out⟩

set_option maxRecDepth 100000 in
set_option maxHeartbeats 4000000 in
theorem oderef_6_8_bad (D : CxD) (cb : Nat) (w : World) (k : List Int) (ps : List LPiece) (x : LWorld) (p : Nat) (y : Int) (a : Nat) (hS : CxS D x) (h : CxR D cb w (k ++ [y]) ps p) (hk : k.length ≤ 1000000) (hau : IntKind.u64.wrap y = (a : Int)) (hal : a < 18446744073709551616) (hr : ¬ (x.at_ ≤ a ∧ a - x.at_ ≤ x.mem.length ∧ 8 ≤ x.mem.length - (a - x.at_))) :
    Calls Try.prog 89 #[.int .u8 6, .pointer (some ⟨cb, 0, none⟩)] w (ErrP D) := by
  have Hau := Lib.hid hau
  have Hal := Lib.hid hal
  clear hau hal
  obtain ⟨bb, bv, bl, off, rd, kv, qv, qs, hv⟩ := h
  have hl : (k ++ [y]).length = k.length + 1 := by simp
  obtain ⟨g, kc, rfl, hk1, hk2, hc⟩ := own_vis hv.own (by omega)
  have cx : w.cell? ⟨g, k.length, none⟩ = some (vi y) := by rw [hc k.length (by omega)]; simp
  rw [hl] at hv
  have c0 : w.cell? ⟨cb, 0, none⟩ = some (.pointer (some ⟨bb, 0, none⟩)) := hv.cell 0
  have c2 : w.cell? ⟨cb, 2, none⟩ = some (.slice (some ⟨g, 0, none⟩) (k.length + 1) kc) := hv.cell 2
  have c4 : w.cell? ⟨cb, 4, none⟩ = some (vi 8) := hv.cell 4
  have c18 : w.cell? ⟨cb, 18, none⟩ = some D.rf := hv.cell 18
  have f2 := hv.free 2
  have Hv := Lib.hid hv
  have SZ := hv.fr.size
  unfold maxLen at hk2
  rw [hl] at hk1
  have e1 : IntKind.i64.wrap (k.length : Int) = (k.length : Int) := IntWalk.i64_in _ (by omega)
  have e2 : (0 : Int) ≤ (k.length : Int) := by omega
  have e3 : (k.length : Int) ≤ (kc : Int) := by omega
  have e5 : (k.length : Int) < (k.length : Int) + 1 := by omega
  have q0 : (((k.length : Int) + 1) == 0) = false := by rw [beq_eq_false_iff_ne]; omega
  have hgb : g ≠ bb := by have := hv.kv_ne.2; simp [Value.ownBlock] at this; exact this
  have qF : ∀ w, (binOp .eql 165 D.rf .nilFunc).run Try.prog w = .ok (.bool false) w := fun _ => by kernel_rfl
  have HS := Lib.hid hS
  have hau := Hau.out
  clear hc hl hS
  obtain ⟨C, hC, hmk⟩ := make_bytes .i64 8 (by omega)
  have hmk0 : ∀ w, (Instr.makeSlice 23 (.int .i64 8) (.int .i64 8)).run Try.prog w = .ok (.slice (some ⟨w.heap.size, 0, none⟩) 8 8) (w.alloc (.cells C 5)) := hmk
  have HCs := Lib.hid hC
  clear hmk hC
  have Hr := Lib.hid hr
  clear hr
  clear hv
  go_enter Try.func89, Try.ntmps89
  go_upto_region 9 with fail
  have HC : Hid (∀ n, CxV D cb ((w.drewN n).setCell ⟨cb, 2, none⟩ (.slice (some ⟨g, 0, none⟩) k.length kc)) k ps p bb bv bl off rd (.slice (some ⟨g, 0, none⟩) k.length kc) qv qs) := fun n => Hv.out.cutL ((Fr.refl _ _).drewN _) (by simp)
  go_wp2_with fail
  go_quiet (fail)
  go_wp2_with fail
  go_region_law (fail)
  all_goals
    go_upto_region 17 with fail
    have hv3 := HC.out (nq + 1)
    generalize World.setCell (World.drewN w (nq + 1)) ⟨cb, 2, none⟩ (.slice (some ⟨g, 0, none⟩) k.length kc) = w3 at *
    have Hv3 := Lib.hid hv3
    have d18 : ∀ o, (w3.alloc o).cell? ⟨cb, 18, none⟩ = some D.rf := fun o => ((Fr.refl [] w3).alloc o).cell (hv3.cell 18) (by simp)
    clear hv3 HC
    go_wp2_with (go_at_call 60; go_must (refine (mem_bad D x HS.out _ (Hv3.out.fr.alloc _) _ 8 8 a Hal.out (by decide) Hr.out).mono ?_); rintro e w4 ⟨⟨t4, u4, rfl⟩, hf4⟩; have F4 : Hid (Fr [] w3 w4) := ((Fr.refl [] w3).alloc _).then hf4; clear hf4)
    go_ret
    exact ⟨.inl ⟨_, _, rfl⟩, Hv3.out.fr.then F4.out⟩

set_option maxRecDepth 100000 in
set_option maxHeartbeats 4000000 in
theorem oderef_148_2 (D : CxD) (cb : Nat) (w : World) (k : List Int) (ps : List LPiece) (x : LWorld) (p p' : Nat) (y : Int) (a : Nat) (z : Nat) (bs : List UInt8) (hS : CxS D x) (h : CxR D cb w (k ++ [y]) ps p) (hk : k.length ≤ 1000000) (hau : IntKind.u64.wrap y = (a : Int)) (hal : a < 18446744073709551616) (ha : AtC D p [2] p') (h1 : x.at_ ≤ a) (h2 : a - x.at_ ≤ x.mem.length) (h3 : 2 ≤ x.mem.length - (a - x.at_)) (hbs : (x.mem.drop (a - x.at_)).take 2 = bs) (hz : leval bs = z) :
    Calls Try.prog 89 #[.int .u8 148, .pointer (some ⟨cb, 0, none⟩)] w (OkP D cb (k ++ [wrap64 (z : Int)]) ps p') := by
  have Hau := Lib.hid hau
  have Hal := Lib.hid hal
  clear hau hal
  obtain ⟨bb, bv, bl, off, rd, kv, qv, qs, hv⟩ := h
  have hl : (k ++ [y]).length = k.length + 1 := by simp
  obtain ⟨g, kc, rfl, hk1, hk2, hc⟩ := own_vis hv.own (by omega)
  have cx : w.cell? ⟨g, k.length, none⟩ = some (vi y) := by rw [hc k.length (by omega)]; simp
  rw [hl] at hv
  have c0 : w.cell? ⟨cb, 0, none⟩ = some (.pointer (some ⟨bb, 0, none⟩)) := hv.cell 0
  have c2 : w.cell? ⟨cb, 2, none⟩ = some (.slice (some ⟨g, 0, none⟩) (k.length + 1) kc) := hv.cell 2
  have c4 : w.cell? ⟨cb, 4, none⟩ = some (vi 8) := hv.cell 4
  have c18 : w.cell? ⟨cb, 18, none⟩ = some D.rf := hv.cell 18
  have f2 := hv.free 2
  have Hv := Lib.hid hv
  have SZ := hv.fr.size
  unfold maxLen at hk2
  rw [hl] at hk1
  have e1 : IntKind.i64.wrap (k.length : Int) = (k.length : Int) := IntWalk.i64_in _ (by omega)
  have e2 : (0 : Int) ≤ (k.length : Int) := by omega
  have e3 : (k.length : Int) ≤ (kc : Int) := by omega
  have e5 : (k.length : Int) < (k.length : Int) + 1 := by omega
  have q0 : (((k.length : Int) + 1) == 0) = false := by rw [beq_eq_false_iff_ne]; omega
  have hgb : g ≠ bb := by have := hv.kv_ne.2; simp [Value.ownBlock] at this; exact this
  have qF : ∀ w, (binOp .eql 165 D.rf .nilFunc).run Try.prog w = .ok (.bool false) w := fun _ => by kernel_rfl
  have HS := Lib.hid hS
  have hau := Hau.out
  clear hc hl hS
  obtain ⟨C, hC, hmk⟩ := make_bytes .i64 2 (by omega)
  have hmk0 : ∀ w, (Instr.makeSlice 23 (.int .i64 2) (.int .i64 2)).run Try.prog w = .ok (.slice (some ⟨w.heap.size, 0, none⟩) 2 2) (w.alloc (.cells C 5)) := hmk
  have HCs := Lib.hid hC
  clear hmk hC
  have Hbs := Lib.hid hbs
  have Hz := Lib.hid hz
  have Hb3 := Lib.hid (And.intro h1 (And.intro h2 h3))
  have Hbl : Hid (bs.length = 2) := by show _ = _; rw [← hbs, List.length_take, List.length_drop]; omega
  have zb : z < 18446744073709551616 := by rw [← hz]; exact Nat.lt_of_lt_of_le (leval_lt bs) (by rw [Hbl.out]; decide)
  have hw0 : IntKind.u64.wrap (z : Int) = (z : Int) := by rw [IntKind.wrap_u64]; omega
  have hw1 : IntKind.i64.wrap (z : Int) = wrap64 (z : Int) := IntWalk.i64_left _
  clear hbs hz h1 h2 h3
  have Ha := Lib.hid ha
  clear hv ha
  go_enter Try.func89, Try.ntmps89
  go_upto_region 9 with (go_at_call 76; go_must (refine (ReadByte_y bb bv bl off rd _ 2 (D.code.drop p') Hv.out.buf (Hv.out.hp Ha.out)).mono ?_); rintro e w1 ⟨rfl, hb1, hf1⟩; have Hv1 := Lib.hid (Hv.out.past Ha.out (n := 1) rfl hb1 hf1); have d2 : w1.cell? ⟨cb, 2, none⟩ = some (.slice (some ⟨g, 0, none⟩) (k.length + 1) kc) := Hv1.out.cell 2; have d18 : w1.cell? ⟨cb, 18, none⟩ = some D.rf := Hv1.out.cell 18; have x2 := Hv1.out.free 2; have SZ1 := Hv1.out.fr.size; have dx : w1.cell? ⟨g, k.length, none⟩ = some (vi y) := hf1.cell cx (by simpa using hgb); clear hb1 hf1)
  have hvb : vb 2 = .int .u8 2 := rfl
  have HC : Hid (∀ n, CxV D cb ((w1.drewN n).setCell ⟨cb, 2, none⟩ (.slice (some ⟨g, 0, none⟩) k.length kc)) k ps p' bb bv bl (off + 1) true (.slice (some ⟨g, 0, none⟩) k.length kc) qv qs) := fun n => Hv1.out.cutL ((Fr.refl _ _).drewN _) (by simp)
  go_wp2_with fail
  go_quiet (fail)
  go_wp2_with fail
  go_region_law (fail)
  all_goals
    go_upto_region 17 with fail
    have hv3 := HC.out (nq + 1)
    generalize World.setCell (World.drewN w1 (nq + 1)) ⟨cb, 2, none⟩ (.slice (some ⟨g, 0, none⟩) k.length kc) = w3 at *
    have Hv3 := Lib.hid hv3
    have d18 : ∀ o, (w3.alloc o).cell? ⟨cb, 18, none⟩ = some D.rf := fun o => ((Fr.refl [] w3).alloc o).cell (hv3.cell 18) (by simp)
    clear hv3 HC
    go_upto_region 19 with (go_at_call 60; go_must (refine (mem_ok D x HS.out _ (Hv3.out.fr.alloc _) w3.heap.size 2 a C Hal.out (by decide) (by decide) (blk_new w3 _) HCs.out Hb3.out.1 Hb3.out.2.1 Hb3.out.2.2).mono ?_); rw [Hbs.out]; rintro e w4 ⟨rfl, hg4, hf4⟩; have F4 : Hid (Fr [] w3 w4) := ((Fr.refl [] w3).alloc _).trans hf4 (fun i hi hlt => by simp at hi hlt; omega); have Hs4 : Hid (Sl w4 (.slice (some ⟨w3.heap.size, 0, none⟩) 2 2) (vbs bs)) := own_sl (own_blk (base := 0) (n := 2) (c := 2) hg4 (by simp [Hbl.out]) rfl (Nat.zero_le _) (by omega)); have Hlt4 : Hid (w3.heap.size < w4.heap.size) := lt_heap hg4; clear hg4 hf4)
    have Hv4 := Lib.hid (Hv3.out.call F4.out)
    clear d18
    go_wp2_with (go_at_call 119; go_must (refine (NewReader_any _ _ _ _).mono ?_); rintro e w5 ⟨rfl, hw5⟩; have F5 : Hid (Fr [] w4 w5) := (by rw [hw5]; exact (Fr.refl [] w4).alloc _); have HR5 : Hid (SrcR false w5 w4.heap.size (.slice (some ⟨w3.heap.size, 0, none⟩) 2 2) bs 0) := (by rw [hw5]; exact RdrR_new (w := w4) Hs4.out (fun g hg => by simp [Value.ownBlock] at hg; have := Hlt4.out; omega) (by rw [Hbl.out]; decide)); have Hsz5 : Hid (w5.heap.size = w4.heap.size + 1) := (by rw [hw5]; simp [Hid]); clear hw5)
    go_wp2_with (first | (go_at_call 124; go_must (refine (ReadUintRaw_2 false w4.heap.size (.slice (some ⟨w3.heap.size, 0, none⟩) 2 2) bs 0 _ HR5.out (by rw [Hbl.out]; decide) (by have := Hsz5.out; omega) (fun g hg => by simp [Value.ownBlock] at hg; have := Hlt4.out; have := Hsz5.out; omega)).mono ?_); rw [List.drop_zero, List.take_of_length_le (by rw [Hbl.out]; decide), Hz.out]; rintro e w6 ⟨rfl, hb6, hf6⟩; have F6 : Hid (Fr [] w4 w6) := F5.out.trans hf6 (fun i hi hlt => by simp at hi; subst hi; omega); clear hb6 hf6; have Hv6 := Lib.hid (Hv4.out.call F6.out); have d6 : w6.cell? ⟨cb, 2, none⟩ = some (.slice (some ⟨g, 0, none⟩) k.length kc) := Hv6.out.cell 2; have x6 := Hv6.out.free 2; have SZ6 := Hv6.out.fr.size) | (at_builtin; go_must (refine wpList_app4 sliceI64 _ rfl _ _ rfl D.W.heap.size _ k.length (vis k) rfl (Hv6.out.ow (by first | exact ((Fr.refl [] _).alloc _) | exact ((Fr.refl [] _).alloc _).drew | exact ((Fr.refl [] _).drew).alloc _ | exact (((Fr.refl [] _).drewN _).alloc _) | exact ((((Fr.refl [] _).drewN _).alloc _).drew) | exact ((((Fr.refl [] _).drewN _).drew).alloc _))) (some ⟨w6.heap.size, 0, none⟩) 1 1 [_] rfl rfl (fun h => by cases h) (news_one rfl _ _) (by simp [Value.oneCell']) (by omega) (by decide) (by simp; omega) ?_); intro a8 c8' w8 ho8 hf8 hg8 ht8; have HP := Lib.hid (Hv6.out.pushed (by first | exact ((Fr.refl [] _).alloc _) | exact ((Fr.refl [] _).alloc _).drew | exact ((Fr.refl [] _).drew).alloc _ | exact (((Fr.refl [] _).drewN _).alloc _) | exact ((((Fr.refl [] _).drewN _).alloc _).drew) | exact ((((Fr.refl [] _).drewN _).drew).alloc _)) hf8 ht8 ho8); have hb8 := Hv6.out.app (by first | exact ((Fr.refl [] _).alloc _) | exact ((Fr.refl [] _).alloc _).drew | exact ((Fr.refl [] _).drew).alloc _ | exact (((Fr.refl [] _).drewN _).alloc _) | exact ((((Fr.refl [] _).drewN _).alloc _).drew) | exact ((((Fr.refl [] _).drewN _).drew).alloc _)) ht8; have s2 : w8.cell? ⟨cb, 2, none⟩ = some (.slice (some ⟨g, 0, none⟩) k.length kc) := blk_cell hb8 2; have z2 : w8.frozen? ⟨cb, 2, none⟩ = false := blk_free hb8 2; clear ho8 hf8 hg8 ht8 hb8))
    go_wp2_with fail
    go_ret
    exact ⟨rfl, HP.out⟩

set_option maxRecDepth 100000 in
set_option maxHeartbeats 4000000 in
theorem oderef_148_2_bad (D : CxD) (cb : Nat) (w : World) (k : List Int) (ps : List LPiece) (x : LWorld) (p p' : Nat) (y : Int) (a : Nat) (hS : CxS D x) (h : CxR D cb w (k ++ [y]) ps p) (hk : k.length ≤ 1000000) (hau : IntKind.u64.wrap y = (a : Int)) (hal : a < 18446744073709551616) (ha : AtC D p [2] p') (hr : ¬ (x.at_ ≤ a ∧ a - x.at_ ≤ x.mem.length ∧ 2 ≤ x.mem.length - (a - x.at_))) :
    Calls Try.prog 89 #[.int .u8 148, .pointer (some ⟨cb, 0, none⟩)] w (ErrP D) := by
  have Hau := Lib.hid hau
  have Hal := Lib.hid hal
  clear hau hal
  obtain ⟨bb, bv, bl, off, rd, kv, qv, qs, hv⟩ := h
  have hl : (k ++ [y]).length = k.length + 1 := by simp
  obtain ⟨g, kc, rfl, hk1, hk2, hc⟩ := own_vis hv.own (by omega)
  have cx : w.cell? ⟨g, k.length, none⟩ = some (vi y) := by rw [hc k.length (by omega)]; simp
  rw [hl] at hv
  have c0 : w.cell? ⟨cb, 0, none⟩ = some (.pointer (some ⟨bb, 0, none⟩)) := hv.cell 0
  have c2 : w.cell? ⟨cb, 2, none⟩ = some (.slice (some ⟨g, 0, none⟩) (k.length + 1) kc) := hv.cell 2
  have c4 : w.cell? ⟨cb, 4, none⟩ = some (vi 8) := hv.cell 4
  have c18 : w.cell? ⟨cb, 18, none⟩ = some D.rf := hv.cell 18
  have f2 := hv.free 2
  have Hv := Lib.hid hv
  have SZ := hv.fr.size
  unfold maxLen at hk2
  rw [hl] at hk1
  have e1 : IntKind.i64.wrap (k.length : Int) = (k.length : Int) := IntWalk.i64_in _ (by omega)
  have e2 : (0 : Int) ≤ (k.length : Int) := by omega
  have e3 : (k.length : Int) ≤ (kc : Int) := by omega
  have e5 : (k.length : Int) < (k.length : Int) + 1 := by omega
  have q0 : (((k.length : Int) + 1) == 0) = false := by rw [beq_eq_false_iff_ne]; omega
  have hgb : g ≠ bb := by have := hv.kv_ne.2; simp [Value.ownBlock] at this; exact this
  have qF : ∀ w, (binOp .eql 165 D.rf .nilFunc).run Try.prog w = .ok (.bool false) w := fun _ => by kernel_rfl
  have HS := Lib.hid hS
  have hau := Hau.out
  clear hc hl hS
  obtain ⟨C, hC, hmk⟩ := make_bytes .i64 2 (by omega)
  have hmk0 : ∀ w, (Instr.makeSlice 23 (.int .i64 2) (.int .i64 2)).run Try.prog w = .ok (.slice (some ⟨w.heap.size, 0, none⟩) 2 2) (w.alloc (.cells C 5)) := hmk
  have HCs := Lib.hid hC
  clear hmk hC
  have Hr := Lib.hid hr
  clear hr
  have Ha := Lib.hid ha
  clear hv ha
  go_enter Try.func89, Try.ntmps89
  go_upto_region 9 with (go_at_call 76; go_must (refine (ReadByte_y bb bv bl off rd _ 2 (D.code.drop p') Hv.out.buf (Hv.out.hp Ha.out)).mono ?_); rintro e w1 ⟨rfl, hb1, hf1⟩; have Hv1 := Lib.hid (Hv.out.past Ha.out (n := 1) rfl hb1 hf1); have d2 : w1.cell? ⟨cb, 2, none⟩ = some (.slice (some ⟨g, 0, none⟩) (k.length + 1) kc) := Hv1.out.cell 2; have d18 : w1.cell? ⟨cb, 18, none⟩ = some D.rf := Hv1.out.cell 18; have x2 := Hv1.out.free 2; have SZ1 := Hv1.out.fr.size; have dx : w1.cell? ⟨g, k.length, none⟩ = some (vi y) := hf1.cell cx (by simpa using hgb); clear hb1 hf1)
  have hvb : vb 2 = .int .u8 2 := rfl
  have HC : Hid (∀ n, CxV D cb ((w1.drewN n).setCell ⟨cb, 2, none⟩ (.slice (some ⟨g, 0, none⟩) k.length kc)) k ps p' bb bv bl (off + 1) true (.slice (some ⟨g, 0, none⟩) k.length kc) qv qs) := fun n => Hv1.out.cutL ((Fr.refl _ _).drewN _) (by simp)
  go_wp2_with fail
  go_quiet (fail)
  go_wp2_with fail
  go_region_law (fail)
  all_goals
    go_upto_region 17 with fail
    have hv3 := HC.out (nq + 1)
    generalize World.setCell (World.drewN w1 (nq + 1)) ⟨cb, 2, none⟩ (.slice (some ⟨g, 0, none⟩) k.length kc) = w3 at *
    have Hv3 := Lib.hid hv3
    have d18 : ∀ o, (w3.alloc o).cell? ⟨cb, 18, none⟩ = some D.rf := fun o => ((Fr.refl [] w3).alloc o).cell (hv3.cell 18) (by simp)
    clear hv3 HC
    go_wp2_with (go_at_call 60; go_must (refine (mem_bad D x HS.out _ (Hv3.out.fr.alloc _) _ 2 2 a Hal.out (by decide) Hr.out).mono ?_); rintro e w4 ⟨⟨t4, u4, rfl⟩, hf4⟩; have F4 : Hid (Fr [] w3 w4) := ((Fr.refl [] w3).alloc _).then hf4; clear hf4)
    go_ret
    exact ⟨.inl ⟨_, _, rfl⟩, Hv3.out.fr.then F4.out⟩

set_option maxRecDepth 100000 in
set_option maxHeartbeats 4000000 in
theorem oderef_148_4 (D : CxD) (cb : Nat) (w : World) (k : List Int) (ps : List LPiece) (x : LWorld) (p p' : Nat) (y : Int) (a : Nat) (z : Nat) (bs : List UInt8) (hS : CxS D x) (h : CxR D cb w (k ++ [y]) ps p) (hk : k.length ≤ 1000000) (hau : IntKind.u64.wrap y = (a : Int)) (hal : a < 18446744073709551616) (ha : AtC D p [4] p') (h1 : x.at_ ≤ a) (h2 : a - x.at_ ≤ x.mem.length) (h3 : 4 ≤ x.mem.length - (a - x.at_)) (hbs : (x.mem.drop (a - x.at_)).take 4 = bs) (hz : leval bs = z) :
    Calls Try.prog 89 #[.int .u8 148, .pointer (some ⟨cb, 0, none⟩)] w (OkP D cb (k ++ [wrap64 (z : Int)]) ps p') := by
  have Hau := Lib.hid hau
  have Hal := Lib.hid hal
  clear hau hal
  obtain ⟨bb, bv, bl, off, rd, kv, qv, qs, hv⟩ := h
  have hl : (k ++ [y]).length = k.length + 1 := by simp
  obtain ⟨g, kc, rfl, hk1, hk2, hc⟩ := own_vis hv.own (by omega)
  have cx : w.cell? ⟨g, k.length, none⟩ = some (vi y) := by rw [hc k.length (by omega)]; simp
  rw [hl] at hv
  have c0 : w.cell? ⟨cb, 0, none⟩ = some (.pointer (some ⟨bb, 0, none⟩)) := hv.cell 0
  have c2 : w.cell? ⟨cb, 2, none⟩ = some (.slice (some ⟨g, 0, none⟩) (k.length + 1) kc) := hv.cell 2
  have c4 : w.cell? ⟨cb, 4, none⟩ = some (vi 8) := hv.cell 4
  have c18 : w.cell? ⟨cb, 18, none⟩ = some D.rf := hv.cell 18
  have f2 := hv.free 2
  have Hv := Lib.hid hv
  have SZ := hv.fr.size
  unfold maxLen at hk2
  rw [hl] at hk1
  have e1 : IntKind.i64.wrap (k.length : Int) = (k.length : Int) := IntWalk.i64_in _ (by omega)
  have e2 : (0 : Int) ≤ (k.length : Int) := by omega
  have e3 : (k.length : Int) ≤ (kc : Int) := by omega
  have e5 : (k.length : Int) < (k.length : Int) + 1 := by omega
  have q0 : (((k.length : Int) + 1) == 0) = false := by rw [beq_eq_false_iff_ne]; omega
  have hgb : g ≠ bb := by have := hv.kv_ne.2; simp [Value.ownBlock] at this; exact this
  have qF : ∀ w, (binOp .eql 165 D.rf .nilFunc).run Try.prog w = .ok (.bool false) w := fun _ => by kernel_rfl
  have HS := Lib.hid hS
  have hau := Hau.out
  clear hc hl hS
  obtain ⟨C, hC, hmk⟩ := make_bytes .i64 4 (by omega)
  have hmk0 : ∀ w, (Instr.makeSlice 23 (.int .i64 4) (.int .i64 4)).run Try.prog w = .ok (.slice (some ⟨w.heap.size, 0, none⟩) 4 4) (w.alloc (.cells C 5)) := hmk
  have HCs := Lib.hid hC
  clear hmk hC
  have Hbs := Lib.hid hbs
  have Hz := Lib.hid hz
  have Hb3 := Lib.hid (And.intro h1 (And.intro h2 h3))
  have Hbl : Hid (bs.length = 4) := by show _ = _; rw [← hbs, List.length_take, List.length_drop]; omega
  have zb : z < 18446744073709551616 := by rw [← hz]; exact Nat.lt_of_lt_of_le (leval_lt bs) (by rw [Hbl.out]; decide)
  have hw0 : IntKind.u64.wrap (z : Int) = (z : Int) := by rw [IntKind.wrap_u64]; omega
  have hw1 : IntKind.i64.wrap (z : Int) = wrap64 (z : Int) := IntWalk.i64_left _
  clear hbs hz h1 h2 h3
  have Ha := Lib.hid ha
  clear hv ha
  go_enter Try.func89, Try.ntmps89
  go_upto_region 9 with (go_at_call 76; go_must (refine (ReadByte_y bb bv bl off rd _ 4 (D.code.drop p') Hv.out.buf (Hv.out.hp Ha.out)).mono ?_); rintro e w1 ⟨rfl, hb1, hf1⟩; have Hv1 := Lib.hid (Hv.out.past Ha.out (n := 1) rfl hb1 hf1); have d2 : w1.cell? ⟨cb, 2, none⟩ = some (.slice (some ⟨g, 0, none⟩) (k.length + 1) kc) := Hv1.out.cell 2; have d18 : w1.cell? ⟨cb, 18, none⟩ = some D.rf := Hv1.out.cell 18; have x2 := Hv1.out.free 2; have SZ1 := Hv1.out.fr.size; have dx : w1.cell? ⟨g, k.length, none⟩ = some (vi y) := hf1.cell cx (by simpa using hgb); clear hb1 hf1)
  have hvb : vb 4 = .int .u8 4 := rfl
  have HC : Hid (∀ n, CxV D cb ((w1.drewN n).setCell ⟨cb, 2, none⟩ (.slice (some ⟨g, 0, none⟩) k.length kc)) k ps p' bb bv bl (off + 1) true (.slice (some ⟨g, 0, none⟩) k.length kc) qv qs) := fun n => Hv1.out.cutL ((Fr.refl _ _).drewN _) (by simp)
  go_wp2_with fail
  go_quiet (fail)
  go_wp2_with fail
  go_region_law (fail)
  all_goals
    go_upto_region 17 with fail
    have hv3 := HC.out (nq + 1)
    generalize World.setCell (World.drewN w1 (nq + 1)) ⟨cb, 2, none⟩ (.slice (some ⟨g, 0, none⟩) k.length kc) = w3 at *
    have Hv3 := Lib.hid hv3
    have d18 : ∀ o, (w3.alloc o).cell? ⟨cb, 18, none⟩ = some D.rf := fun o => ((Fr.refl [] w3).alloc o).cell (hv3.cell 18) (by simp)
    clear hv3 HC
    go_upto_region 19 with (go_at_call 60; go_must (refine (mem_ok D x HS.out _ (Hv3.out.fr.alloc _) w3.heap.size 4 a C Hal.out (by decide) (by decide) (blk_new w3 _) HCs.out Hb3.out.1 Hb3.out.2.1 Hb3.out.2.2).mono ?_); rw [Hbs.out]; rintro e w4 ⟨rfl, hg4, hf4⟩; have F4 : Hid (Fr [] w3 w4) := ((Fr.refl [] w3).alloc _).trans hf4 (fun i hi hlt => by simp at hi hlt; omega); have Hs4 : Hid (Sl w4 (.slice (some ⟨w3.heap.size, 0, none⟩) 4 4) (vbs bs)) := own_sl (own_blk (base := 0) (n := 4) (c := 4) hg4 (by simp [Hbl.out]) rfl (Nat.zero_le _) (by omega)); have Hlt4 : Hid (w3.heap.size < w4.heap.size) := lt_heap hg4; clear hg4 hf4)
    have Hv4 := Lib.hid (Hv3.out.call F4.out)
    clear d18
    go_wp2_with (go_at_call 119; go_must (refine (NewReader_any _ _ _ _).mono ?_); rintro e w5 ⟨rfl, hw5⟩; have F5 : Hid (Fr [] w4 w5) := (by rw [hw5]; exact (Fr.refl [] w4).alloc _); have HR5 : Hid (SrcR false w5 w4.heap.size (.slice (some ⟨w3.heap.size, 0, none⟩) 4 4) bs 0) := (by rw [hw5]; exact RdrR_new (w := w4) Hs4.out (fun g hg => by simp [Value.ownBlock] at hg; have := Hlt4.out; omega) (by rw [Hbl.out]; decide)); have Hsz5 : Hid (w5.heap.size = w4.heap.size + 1) := (by rw [hw5]; simp [Hid]); clear hw5)
    go_wp2_with (first | (go_at_call 124; go_must (refine (ReadUintRaw_4 false w4.heap.size (.slice (some ⟨w3.heap.size, 0, none⟩) 4 4) bs 0 _ HR5.out (by rw [Hbl.out]; decide) (by have := Hsz5.out; omega) (fun g hg => by simp [Value.ownBlock] at hg; have := Hlt4.out; have := Hsz5.out; omega)).mono ?_); rw [List.drop_zero, List.take_of_length_le (by rw [Hbl.out]; decide), Hz.out]; rintro e w6 ⟨rfl, hb6, hf6⟩; have F6 : Hid (Fr [] w4 w6) := F5.out.trans hf6 (fun i hi hlt => by simp at hi; subst hi; omega); clear hb6 hf6; have Hv6 := Lib.hid (Hv4.out.call F6.out); have d6 : w6.cell? ⟨cb, 2, none⟩ = some (.slice (some ⟨g, 0, none⟩) k.length kc) := Hv6.out.cell 2; have x6 := Hv6.out.free 2; have SZ6 := Hv6.out.fr.size) | (at_builtin; go_must (refine wpList_app4 sliceI64 _ rfl _ _ rfl D.W.heap.size _ k.length (vis k) rfl (Hv6.out.ow (by first | exact ((Fr.refl [] _).alloc _) | exact ((Fr.refl [] _).alloc _).drew | exact ((Fr.refl [] _).drew).alloc _ | exact (((Fr.refl [] _).drewN _).alloc _) | exact ((((Fr.refl [] _).drewN _).alloc _).drew) | exact ((((Fr.refl [] _).drewN _).drew).alloc _))) (some ⟨w6.heap.size, 0, none⟩) 1 1 [_] rfl rfl (fun h => by cases h) (news_one rfl _ _) (by simp [Value.oneCell']) (by omega) (by decide) (by simp; omega) ?_); intro a8 c8' w8 ho8 hf8 hg8 ht8; have HP := Lib.hid (Hv6.out.pushed (by first | exact ((Fr.refl [] _).alloc _) | exact ((Fr.refl [] _).alloc _).drew | exact ((Fr.refl [] _).drew).alloc _ | exact (((Fr.refl [] _).drewN _).alloc _) | exact ((((Fr.refl [] _).drewN _).alloc _).drew) | exact ((((Fr.refl [] _).drewN _).drew).alloc _)) hf8 ht8 ho8); have hb8 := Hv6.out.app (by first | exact ((Fr.refl [] _).alloc _) | exact ((Fr.refl [] _).alloc _).drew | exact ((Fr.refl [] _).drew).alloc _ | exact (((Fr.refl [] _).drewN _).alloc _) | exact ((((Fr.refl [] _).drewN _).alloc _).drew) | exact ((((Fr.refl [] _).drewN _).drew).alloc _)) ht8; have s2 : w8.cell? ⟨cb, 2, none⟩ = some (.slice (some ⟨g, 0, none⟩) k.length kc) := blk_cell hb8 2; have z2 : w8.frozen? ⟨cb, 2, none⟩ = false := blk_free hb8 2; clear ho8 hf8 hg8 ht8 hb8))
    go_wp2_with fail
    go_ret
    exact ⟨rfl, HP.out⟩

set_option maxRecDepth 100000 in
set_option maxHeartbeats 4000000 in
theorem oderef_148_4_bad (D : CxD) (cb : Nat) (w : World) (k : List Int) (ps : List LPiece) (x : LWorld) (p p' : Nat) (y : Int) (a : Nat) (hS : CxS D x) (h : CxR D cb w (k ++ [y]) ps p) (hk : k.length ≤ 1000000) (hau : IntKind.u64.wrap y = (a : Int)) (hal : a < 18446744073709551616) (ha : AtC D p [4] p') (hr : ¬ (x.at_ ≤ a ∧ a - x.at_ ≤ x.mem.length ∧ 4 ≤ x.mem.length - (a - x.at_))) :
    Calls Try.prog 89 #[.int .u8 148, .pointer (some ⟨cb, 0, none⟩)] w (ErrP D) := by
  have Hau := Lib.hid hau
  have Hal := Lib.hid hal
  clear hau hal
  obtain ⟨bb, bv, bl, off, rd, kv, qv, qs, hv⟩ := h
  have hl : (k ++ [y]).length = k.length + 1 := by simp
  obtain ⟨g, kc, rfl, hk1, hk2, hc⟩ := own_vis hv.own (by omega)
  have cx : w.cell? ⟨g, k.length, none⟩ = some (vi y) := by rw [hc k.length (by omega)]; simp
  rw [hl] at hv
  have c0 : w.cell? ⟨cb, 0, none⟩ = some (.pointer (some ⟨bb, 0, none⟩)) := hv.cell 0
  have c2 : w.cell? ⟨cb, 2, none⟩ = some (.slice (some ⟨g, 0, none⟩) (k.length + 1) kc) := hv.cell 2
  have c4 : w.cell? ⟨cb, 4, none⟩ = some (vi 8) := hv.cell 4
  have c18 : w.cell? ⟨cb, 18, none⟩ = some D.rf := hv.cell 18
  have f2 := hv.free 2
  have Hv := Lib.hid hv
  have SZ := hv.fr.size
  unfold maxLen at hk2
  rw [hl] at hk1
  have e1 : IntKind.i64.wrap (k.length : Int) = (k.length : Int) := IntWalk.i64_in _ (by omega)
  have e2 : (0 : Int) ≤ (k.length : Int) := by omega
  have e3 : (k.length : Int) ≤ (kc : Int) := by omega
  have e5 : (k.length : Int) < (k.length : Int) + 1 := by omega
  have q0 : (((k.length : Int) + 1) == 0) = false := by rw [beq_eq_false_iff_ne]; omega
  have hgb : g ≠ bb := by have := hv.kv_ne.2; simp [Value.ownBlock] at this; exact this
  have qF : ∀ w, (binOp .eql 165 D.rf .nilFunc).run Try.prog w = .ok (.bool false) w := fun _ => by kernel_rfl
  have HS := Lib.hid hS
  have hau := Hau.out
  clear hc hl hS
  obtain ⟨C, hC, hmk⟩ := make_bytes .i64 4 (by omega)
  have hmk0 : ∀ w, (Instr.makeSlice 23 (.int .i64 4) (.int .i64 4)).run Try.prog w = .ok (.slice (some ⟨w.heap.size, 0, none⟩) 4 4) (w.alloc (.cells C 5)) := hmk
  have HCs := Lib.hid hC
  clear hmk hC
  have Hr := Lib.hid hr
  clear hr
  have Ha := Lib.hid ha
  clear hv ha
  go_enter Try.func89, Try.ntmps89
  go_upto_region 9 with (go_at_call 76; go_must (refine (ReadByte_y bb bv bl off rd _ 4 (D.code.drop p') Hv.out.buf (Hv.out.hp Ha.out)).mono ?_); rintro e w1 ⟨rfl, hb1, hf1⟩; have Hv1 := Lib.hid (Hv.out.past Ha.out (n := 1) rfl hb1 hf1); have d2 : w1.cell? ⟨cb, 2, none⟩ = some (.slice (some ⟨g, 0, none⟩) (k.length + 1) kc) := Hv1.out.cell 2; have d18 : w1.cell? ⟨cb, 18, none⟩ = some D.rf := Hv1.out.cell 18; have x2 := Hv1.out.free 2; have SZ1 := Hv1.out.fr.size; have dx : w1.cell? ⟨g, k.length, none⟩ = some (vi y) := hf1.cell cx (by simpa using hgb); clear hb1 hf1)
  have hvb : vb 4 = .int .u8 4 := rfl
  have HC : Hid (∀ n, CxV D cb ((w1.drewN n).setCell ⟨cb, 2, none⟩ (.slice (some ⟨g, 0, none⟩) k.length kc)) k ps p' bb bv bl (off + 1) true (.slice (some ⟨g, 0, none⟩) k.length kc) qv qs) := fun n => Hv1.out.cutL ((Fr.refl _ _).drewN _) (by simp)
  go_wp2_with fail
  go_quiet (fail)
  go_wp2_with fail
  go_region_law (fail)
  all_goals
    go_upto_region 17 with fail
    have hv3 := HC.out (nq + 1)
    generalize World.setCell (World.drewN w1 (nq + 1)) ⟨cb, 2, none⟩ (.slice (some ⟨g, 0, none⟩) k.length kc) = w3 at *
    have Hv3 := Lib.hid hv3
    have d18 : ∀ o, (w3.alloc o).cell? ⟨cb, 18, none⟩ = some D.rf := fun o => ((Fr.refl [] w3).alloc o).cell (hv3.cell 18) (by simp)
    clear hv3 HC
    go_wp2_with (go_at_call 60; go_must (refine (mem_bad D x HS.out _ (Hv3.out.fr.alloc _) _ 4 4 a Hal.out (by decide) Hr.out).mono ?_); rintro e w4 ⟨⟨t4, u4, rfl⟩, hf4⟩; have F4 : Hid (Fr [] w3 w4) := ((Fr.refl [] w3).alloc _).then hf4; clear hf4)
    go_ret
    exact ⟨.inl ⟨_, _, rfl⟩, Hv3.out.fr.then F4.out⟩

set_option maxRecDepth 100000 in
set_option maxHeartbeats 4000000 in
theorem oderef_148_8 (D : CxD) (cb : Nat) (w : World) (k : List Int) (ps : List LPiece) (x : LWorld) (p p' : Nat) (y : Int) (a : Nat) (z : Nat) (bs : List UInt8) (hS : CxS D x) (h : CxR D cb w (k ++ [y]) ps p) (hk : k.length ≤ 1000000) (hau : IntKind.u64.wrap y = (a : Int)) (hal : a < 18446744073709551616) (ha : AtC D p [8] p') (h1 : x.at_ ≤ a) (h2 : a - x.at_ ≤ x.mem.length) (h3 : 8 ≤ x.mem.length - (a - x.at_)) (hbs : (x.mem.drop (a - x.at_)).take 8 = bs) (hz : leval bs = z) :
    Calls Try.prog 89 #[.int .u8 148, .pointer (some ⟨cb, 0, none⟩)] w (OkP D cb (k ++ [wrap64 (z : Int)]) ps p') := by
  have Hau := Lib.hid hau
  have Hal := Lib.hid hal
  clear hau hal
  obtain ⟨bb, bv, bl, off, rd, kv, qv, qs, hv⟩ := h
  have hl : (k ++ [y]).length = k.length + 1 := by simp
  obtain ⟨g, kc, rfl, hk1, hk2, hc⟩ := own_vis hv.own (by omega)
  have cx : w.cell? ⟨g, k.length, none⟩ = some (vi y) := by rw [hc k.length (by omega)]; simp
  rw [hl] at hv
  have c0 : w.cell? ⟨cb, 0, none⟩ = some (.pointer (some ⟨bb, 0, none⟩)) := hv.cell 0
  have c2 : w.cell? ⟨cb, 2, none⟩ = some (.slice (some ⟨g, 0, none⟩) (k.length + 1) kc) := hv.cell 2
  have c4 : w.cell? ⟨cb, 4, none⟩ = some (vi 8) := hv.cell 4
  have c18 : w.cell? ⟨cb, 18, none⟩ = some D.rf := hv.cell 18
  have f2 := hv.free 2
  have Hv := Lib.hid hv
  have SZ := hv.fr.size
  unfold maxLen at hk2
  rw [hl] at hk1
  have e1 : IntKind.i64.wrap (k.length : Int) = (k.length : Int) := IntWalk.i64_in _ (by omega)
  have e2 : (0 : Int) ≤ (k.length : Int) := by omega
  have e3 : (k.length : Int) ≤ (kc : Int) := by omega
  have e5 : (k.length : Int) < (k.length : Int) + 1 := by omega
  have q0 : (((k.length : Int) + 1) == 0) = false := by rw [beq_eq_false_iff_ne]; omega
  have hgb : g ≠ bb := by have := hv.kv_ne.2; simp [Value.ownBlock] at this; exact this
  have qF : ∀ w, (binOp .eql 165 D.rf .nilFunc).run Try.prog w = .ok (.bool false) w := fun _ => by kernel_rfl
  have HS := Lib.hid hS
  have hau := Hau.out
  clear hc hl hS
  obtain ⟨C, hC, hmk⟩ := make_bytes .i64 8 (by omega)
  have hmk0 : ∀ w, (Instr.makeSlice 23 (.int .i64 8) (.int .i64 8)).run Try.prog w = .ok (.slice (some ⟨w.heap.size, 0, none⟩) 8 8) (w.alloc (.cells C 5)) := hmk
  have HCs := Lib.hid hC
  clear hmk hC
  have Hbs := Lib.hid hbs
  have Hz := Lib.hid hz
  have Hb3 := Lib.hid (And.intro h1 (And.intro h2 h3))
  have Hbl : Hid (bs.length = 8) := by show _ = _; rw [← hbs, List.length_take, List.length_drop]; omega
  have zb : z < 18446744073709551616 := by rw [← hz]; exact Nat.lt_of_lt_of_le (leval_lt bs) (by rw [Hbl.out]; decide)
  have hw0 : IntKind.u64.wrap (z : Int) = (z : Int) := by rw [IntKind.wrap_u64]; omega
  have hw1 : IntKind.i64.wrap (z : Int) = wrap64 (z : Int) := IntWalk.i64_left _
  clear hbs hz h1 h2 h3
  have Ha := Lib.hid ha
  clear hv ha
  go_enter Try.func89, Try.ntmps89
  go_upto_region 9 with (go_at_call 76; go_must (refine (ReadByte_y bb bv bl off rd _ 8 (D.code.drop p') Hv.out.buf (Hv.out.hp Ha.out)).mono ?_); rintro e w1 ⟨rfl, hb1, hf1⟩; have Hv1 := Lib.hid (Hv.out.past Ha.out (n := 1) rfl hb1 hf1); have d2 : w1.cell? ⟨cb, 2, none⟩ = some (.slice (some ⟨g, 0, none⟩) (k.length + 1) kc) := Hv1.out.cell 2; have d18 : w1.cell? ⟨cb, 18, none⟩ = some D.rf := Hv1.out.cell 18; have x2 := Hv1.out.free 2; have SZ1 := Hv1.out.fr.size; have dx : w1.cell? ⟨g, k.length, none⟩ = some (vi y) := hf1.cell cx (by simpa using hgb); clear hb1 hf1)
  have hvb : vb 8 = .int .u8 8 := rfl
  have HC : Hid (∀ n, CxV D cb ((w1.drewN n).setCell ⟨cb, 2, none⟩ (.slice (some ⟨g, 0, none⟩) k.length kc)) k ps p' bb bv bl (off + 1) true (.slice (some ⟨g, 0, none⟩) k.length kc) qv qs) := fun n => Hv1.out.cutL ((Fr.refl _ _).drewN _) (by simp)
  go_wp2_with fail
  go_quiet (fail)
  go_wp2_with fail
  go_region_law (fail)
  all_goals
    go_upto_region 17 with fail
    have hv3 := HC.out (nq + 1)
    generalize World.setCell (World.drewN w1 (nq + 1)) ⟨cb, 2, none⟩ (.slice (some ⟨g, 0, none⟩) k.length kc) = w3 at *
    have Hv3 := Lib.hid hv3
    have d18 : ∀ o, (w3.alloc o).cell? ⟨cb, 18, none⟩ = some D.rf := fun o => ((Fr.refl [] w3).alloc o).cell (hv3.cell 18) (by simp)
    clear hv3 HC
    go_upto_region 19 with (go_at_call 60; go_must (refine (mem_ok D x HS.out _ (Hv3.out.fr.alloc _) w3.heap.size 8 a C Hal.out (by decide) (by decide) (blk_new w3 _) HCs.out Hb3.out.1 Hb3.out.2.1 Hb3.out.2.2).mono ?_); rw [Hbs.out]; rintro e w4 ⟨rfl, hg4, hf4⟩; have F4 : Hid (Fr [] w3 w4) := ((Fr.refl [] w3).alloc _).trans hf4 (fun i hi hlt => by simp at hi hlt; omega); have Hs4 : Hid (Sl w4 (.slice (some ⟨w3.heap.size, 0, none⟩) 8 8) (vbs bs)) := own_sl (own_blk (base := 0) (n := 8) (c := 8) hg4 (by simp [Hbl.out]) rfl (Nat.zero_le _) (by omega)); have Hlt4 : Hid (w3.heap.size < w4.heap.size) := lt_heap hg4; clear hg4 hf4)
    have Hv4 := Lib.hid (Hv3.out.call F4.out)
    clear d18
    go_wp2_with (go_at_call 119; go_must (refine (NewReader_any _ _ _ _).mono ?_); rintro e w5 ⟨rfl, hw5⟩; have F5 : Hid (Fr [] w4 w5) := (by rw [hw5]; exact (Fr.refl [] w4).alloc _); have HR5 : Hid (SrcR false w5 w4.heap.size (.slice (some ⟨w3.heap.size, 0, none⟩) 8 8) bs 0) := (by rw [hw5]; exact RdrR_new (w := w4) Hs4.out (fun g hg => by simp [Value.ownBlock] at hg; have := Hlt4.out; omega) (by rw [Hbl.out]; decide)); have Hsz5 : Hid (w5.heap.size = w4.heap.size + 1) := (by rw [hw5]; simp [Hid]); clear hw5)
    go_wp2_with (first | (go_at_call 124; go_must (refine (ReadUintRaw_8 false w4.heap.size (.slice (some ⟨w3.heap.size, 0, none⟩) 8 8) bs 0 _ HR5.out (by rw [Hbl.out]; decide) (by have := Hsz5.out; omega) (fun g hg => by simp [Value.ownBlock] at hg; have := Hlt4.out; have := Hsz5.out; omega)).mono ?_); rw [List.drop_zero, List.take_of_length_le (by rw [Hbl.out]; decide), Hz.out]; rintro e w6 ⟨rfl, hb6, hf6⟩; have F6 : Hid (Fr [] w4 w6) := F5.out.trans hf6 (fun i hi hlt => by simp at hi; subst hi; omega); clear hb6 hf6; have Hv6 := Lib.hid (Hv4.out.call F6.out); have d6 : w6.cell? ⟨cb, 2, none⟩ = some (.slice (some ⟨g, 0, none⟩) k.length kc) := Hv6.out.cell 2; have x6 := Hv6.out.free 2; have SZ6 := Hv6.out.fr.size) | (at_builtin; go_must (refine wpList_app4 sliceI64 _ rfl _ _ rfl D.W.heap.size _ k.length (vis k) rfl (Hv6.out.ow (by first | exact ((Fr.refl [] _).alloc _) | exact ((Fr.refl [] _).alloc _).drew | exact ((Fr.refl [] _).drew).alloc _ | exact (((Fr.refl [] _).drewN _).alloc _) | exact ((((Fr.refl [] _).drewN _).alloc _).drew) | exact ((((Fr.refl [] _).drewN _).drew).alloc _))) (some ⟨w6.heap.size, 0, none⟩) 1 1 [_] rfl rfl (fun h => by cases h) (news_one rfl _ _) (by simp [Value.oneCell']) (by omega) (by decide) (by simp; omega) ?_); intro a8 c8' w8 ho8 hf8 hg8 ht8; have HP := Lib.hid (Hv6.out.pushed (by first | exact ((Fr.refl [] _).alloc _) | exact ((Fr.refl [] _).alloc _).drew | exact ((Fr.refl [] _).drew).alloc _ | exact (((Fr.refl [] _).drewN _).alloc _) | exact ((((Fr.refl [] _).drewN _).alloc _).drew) | exact ((((Fr.refl [] _).drewN _).drew).alloc _)) hf8 ht8 ho8); have hb8 := Hv6.out.app (by first | exact ((Fr.refl [] _).alloc _) | exact ((Fr.refl [] _).alloc _).drew | exact ((Fr.refl [] _).drew).alloc _ | exact (((Fr.refl [] _).drewN _).alloc _) | exact ((((Fr.refl [] _).drewN _).alloc _).drew) | exact ((((Fr.refl [] _).drewN _).drew).alloc _)) ht8; have s2 : w8.cell? ⟨cb, 2, none⟩ = some (.slice (some ⟨g, 0, none⟩) k.length kc) := blk_cell hb8 2; have z2 : w8.frozen? ⟨cb, 2, none⟩ = false := blk_free hb8 2; clear ho8 hf8 hg8 ht8 hb8))
    go_wp2_with fail
    go_ret
    exact ⟨rfl, HP.out⟩

set_option maxRecDepth 100000 in
set_option maxHeartbeats 4000000 in
theorem oderef_148_8_bad (D : CxD) (cb : Nat) (w : World) (k : List Int) (ps : List LPiece) (x : LWorld) (p p' : Nat) (y : Int) (a : Nat) (hS : CxS D x) (h : CxR D cb w (k ++ [y]) ps p) (hk : k.length ≤ 1000000) (hau : IntKind.u64.wrap y = (a : Int)) (hal : a < 18446744073709551616) (ha : AtC D p [8] p') (hr : ¬ (x.at_ ≤ a ∧ a - x.at_ ≤ x.mem.length ∧ 8 ≤ x.mem.length - (a - x.at_))) :
    Calls Try.prog 89 #[.int .u8 148, .pointer (some ⟨cb, 0, none⟩)] w (ErrP D) := by
  have Hau := Lib.hid hau
  have Hal := Lib.hid hal
  clear hau hal
  obtain ⟨bb, bv, bl, off, rd, kv, qv, qs, hv⟩ := h
  have hl : (k ++ [y]).length = k.length + 1 := by simp
  obtain ⟨g, kc, rfl, hk1, hk2, hc⟩ := own_vis hv.own (by omega)
  have cx : w.cell? ⟨g, k.length, none⟩ = some (vi y) := by rw [hc k.length (by omega)]; simp
  rw [hl] at hv
  have c0 : w.cell? ⟨cb, 0, none⟩ = some (.pointer (some ⟨bb, 0, none⟩)) := hv.cell 0
  have c2 : w.cell? ⟨cb, 2, none⟩ = some (.slice (some ⟨g, 0, none⟩) (k.length + 1) kc) := hv.cell 2
  have c4 : w.cell? ⟨cb, 4, none⟩ = some (vi 8) := hv.cell 4
  have c18 : w.cell? ⟨cb, 18, none⟩ = some D.rf := hv.cell 18
  have f2 := hv.free 2
  have Hv := Lib.hid hv
  have SZ := hv.fr.size
  unfold maxLen at hk2
  rw [hl] at hk1
  have e1 : IntKind.i64.wrap (k.length : Int) = (k.length : Int) := IntWalk.i64_in _ (by omega)
  have e2 : (0 : Int) ≤ (k.length : Int) := by omega
  have e3 : (k.length : Int) ≤ (kc : Int) := by omega
  have e5 : (k.length : Int) < (k.length : Int) + 1 := by omega
  have q0 : (((k.length : Int) + 1) == 0) = false := by rw [beq_eq_false_iff_ne]; omega
  have hgb : g ≠ bb := by have := hv.kv_ne.2; simp [Value.ownBlock] at this; exact this
  have qF : ∀ w, (binOp .eql 165 D.rf .nilFunc).run Try.prog w = .ok (.bool false) w := fun _ => by kernel_rfl
  have HS := Lib.hid hS
  have hau := Hau.out
  clear hc hl hS
  obtain ⟨C, hC, hmk⟩ := make_bytes .i64 8 (by omega)
  have hmk0 : ∀ w, (Instr.makeSlice 23 (.int .i64 8) (.int .i64 8)).run Try.prog w = .ok (.slice (some ⟨w.heap.size, 0, none⟩) 8 8) (w.alloc (.cells C 5)) := hmk
  have HCs := Lib.hid hC
  clear hmk hC
  have Hr := Lib.hid hr
  clear hr
  have Ha := Lib.hid ha
  clear hv ha
  go_enter Try.func89, Try.ntmps89
  go_upto_region 9 with (go_at_call 76; go_must (refine (ReadByte_y bb bv bl off rd _ 8 (D.code.drop p') Hv.out.buf (Hv.out.hp Ha.out)).mono ?_); rintro e w1 ⟨rfl, hb1, hf1⟩; have Hv1 := Lib.hid (Hv.out.past Ha.out (n := 1) rfl hb1 hf1); have d2 : w1.cell? ⟨cb, 2, none⟩ = some (.slice (some ⟨g, 0, none⟩) (k.length + 1) kc) := Hv1.out.cell 2; have d18 : w1.cell? ⟨cb, 18, none⟩ = some D.rf := Hv1.out.cell 18; have x2 := Hv1.out.free 2; have SZ1 := Hv1.out.fr.size; have dx : w1.cell? ⟨g, k.length, none⟩ = some (vi y) := hf1.cell cx (by simpa using hgb); clear hb1 hf1)
  have hvb : vb 8 = .int .u8 8 := rfl
  have HC : Hid (∀ n, CxV D cb ((w1.drewN n).setCell ⟨cb, 2, none⟩ (.slice (some ⟨g, 0, none⟩) k.length kc)) k ps p' bb bv bl (off + 1) true (.slice (some ⟨g, 0, none⟩) k.length kc) qv qs) := fun n => Hv1.out.cutL ((Fr.refl _ _).drewN _) (by simp)
  go_wp2_with fail
  go_quiet (fail)
  go_wp2_with fail
  go_region_law (fail)
  all_goals
    go_upto_region 17 with fail
    have hv3 := HC.out (nq + 1)
    generalize World.setCell (World.drewN w1 (nq + 1)) ⟨cb, 2, none⟩ (.slice (some ⟨g, 0, none⟩) k.length kc) = w3 at *
    have Hv3 := Lib.hid hv3
    have d18 : ∀ o, (w3.alloc o).cell? ⟨cb, 18, none⟩ = some D.rf := fun o => ((Fr.refl [] w3).alloc o).cell (hv3.cell 18) (by simp)
    clear hv3 HC
    go_wp2_with (go_at_call 60; go_must (refine (mem_bad D x HS.out _ (Hv3.out.fr.alloc _) _ 8 8 a Hal.out (by decide) Hr.out).mono ?_); rintro e w4 ⟨⟨t4, u4, rfl⟩, hf4⟩; have F4 : Hid (Fr [] w3 w4) := ((Fr.refl [] w3).alloc _).then hf4; clear hf4)
    go_ret
    exact ⟨.inl ⟨_, _, rfl⟩, Hv3.out.fr.then F4.out⟩
end Go.Proofs.Ytahohmdfllgedaa
