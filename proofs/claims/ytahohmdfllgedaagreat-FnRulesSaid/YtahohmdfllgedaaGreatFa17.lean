/- impl.Frame: behind its second loop. Printed by gen_gfr.py.
impl.Frame: the second loop. Printed by gen_gfr.py.
impl.Frame: from the machine's map on. Printed by gen_gfr.py.
Plain: the frames of call frame information, each with its common entry.
impl.Frame. Printed by gen_gfr.py.
The reference's table of rules in memory.
The reference's call: an instruction each. Printed by gen_gtc.py. -/
import Derived.Test.YtahohmdfllgedaaGreatFa16
import Derived.Deep.RegionHeld3
import Derived.Test.YtahohmdfllgedaaGreatFa7
import Derived.Test.YtahohmdfllgedaaGreatFa1
import Derived.Deep.Cut
import Derived.Deep.CutRange
import Derived.Deep.CutBlock
import Derived.Test.YtahohmdfllgedaaGreatFa8
import Derived.Test.YtahohmdfllgedaaGreatFa5
set_option linter.unusedVariables false
set_option linter.unusedSimpArgs false
namespace Go.Proofs.YtahohmdfllgedaaGreat
open Go.RowKit Go.MapKept
open Go.ChangeMaps (setBlock)

noncomputable def frTail (n : Nat) : Code := (Tryz.f10.body.bind (tailAt n)).getD .skip
theorem Fr.same {bs : List Nat} {a b : World} {p : Nat} {v : Value} {t : TypeId} (h : Fr bs a b) (hb : b.heap[p]? = some (.cells #[v] t (0, 0))) : Fr bs a (b.setCell ⟨p, 0, none⟩ v) := by
  rw [setCell_same' hb rfl]; exact h
/-- The blocks of impl.Frame's results: all nought but the rows. -/
structure ZV (w : World) (p0 p1 p2 p3 p4 p5 : Nat) (v : Value) : Prop where
  b0 : w.heap[p0]? = some (.cells #[.int .u64 0] 23 (0, 0))
  b1 : w.heap[p1]? = some (.cells #[.int .u64 0] 23 (0, 0))
  b2 : w.heap[p2]? = some (.cells #[.int .i64 0, .int .i64 0, .int .i64 0, .slice none 0 0] 29 (0, 0))
  b3 : w.heap[p3]? = some (.cells #[v] 30 (0, 0))
  b4 : w.heap[p4]? = some (.cells #[.int .i64 0] 3 (0, 0))
  b5 : w.heap[p5]? = some (.cells #[.bool false] 4 (0, 0))

set_option maxRecDepth 100000 in
set_option maxHeartbeats 20000000 in
theorem Frame_T22 (w wE : World) (dv : Value) (fd fb mb ib : Nat) (ord : Value) (K : FK) (loc : Nat) (ev xv : Value) (c : LCommon) (x : LFrame) (t : LTab) (p0 p1 p2 p3 p4 p5 : Nat) (hA : FrA wE dv fd fb mb ib ord K loc ev xv c x t p0 p1 p2 p3 p4 p5) (hw : Fr [] w wE) (hp : w.heap.size ≤ p0 ∧ w.heap.size ≤ p1 ∧ w.heap.size ≤ p2 ∧ w.heap.size ≤ p3 ∧ w.heap.size ≤ p4 ∧ w.heap.size ≤ p5) (h01 : p0 ≠ p1) (PQ : Ending → World → Prop) (hPQ : ∀ e w', IFr1 w' c x (some t) e → Fr [] w w' → PQ e w')
    (wr : World) (ks : List Int) (hR : EnR wE p3 t ks wr) (hkn : ks.Nodup) (hka : ∀ k r, t.rules k = some r → k ∈ ks)
    (K9 : Act → World → Prop) (hK9 : ∀ a w', Code.wp Tryz.prog (restOf (frTail 22)) (bodyPostD Tryz.prog Tryz.f10 PQ) a w' → K9 a w')
    (s0 s1 s2 s3 s10 s11 s14 s15 s16 s17 s18 s19 s20 s21 s22 s23 s24 s25 s26 s27 s28 s29 s30 s31 s32 s33 s34 s35 s36 s37 s38 s39 s40 s41 s42 s43 s44 s45 s46 s47 s48 s49 s50 s51 s52 s53 s54 s55 s56 s57 s58 s59 s60 s61 s62 s63 s64 s65 s66 s67 s68 s69 s70 s71 s72 s73 s74 s75 s76 s77 s78 s79 s80 s81 s82 s83 s84 s85 s86 s87 s88 s89 s90 s91 s92 s93 s94 s95 s96 s97 : Value) :
    Code.wp Tryz.prog (headOf (frTail 22)) (Exit.then K9 (bodyPostD Tryz.prog Tryz.f10 PQ)) ⟨(s0 :: s1 :: s2 :: s3 :: .pointer (some ⟨p0, 0, none⟩) :: .pointer (some ⟨p1, 0, none⟩) :: .pointer (some ⟨p2, 0, none⟩) :: .pointer (some ⟨p3, 0, none⟩) :: .pointer (some ⟨p4, 0, none⟩) :: .pointer (some ⟨p5, 0, none⟩) :: s10 :: s11 :: .pointer (some ⟨fd, 0, none⟩) :: .pointer (some ⟨fb, 0, none⟩) :: s14 :: s15 :: s16 :: s17 :: s18 :: s19 :: s20 :: s21 :: s22 :: s23 :: s24 :: s25 :: s26 :: s27 :: s28 :: s29 :: s30 :: s31 :: s32 :: s33 :: s34 :: s35 :: s36 :: s37 :: s38 :: s39 :: s40 :: s41 :: s42 :: s43 :: s44 :: s45 :: s46 :: s47 :: s48 :: s49 :: s50 :: s51 :: s52 :: s53 :: s54 :: s55 :: s56 :: s57 :: s58 :: s59 :: s60 :: s61 :: s62 :: s63 :: s64 :: s65 :: s66 :: s67 :: s68 :: s69 :: s70 :: s71 :: s72 :: s73 :: s74 :: s75 :: s76 :: s77 :: s78 :: s79 :: s80 :: s81 :: s82 :: s83 :: s84 :: s85 :: s86 :: s87 :: s88 :: s89 :: s90 :: s91 :: s92 :: s93 :: s94 :: s95 :: s96 :: s97 :: []).toArray, [{ target := .fn (.func 22) #[.pointer (some ⟨p0, 0, none⟩), .pointer (some ⟨p1, 0, none⟩), .pointer (some ⟨p2, 0, none⟩), .pointer (some ⟨p3, 0, none⟩), .pointer (some ⟨p4, 0, none⟩), .pointer (some ⟨p5, 0, none⟩)], args := #[] }]⟩ wr := by
  have HA := Lib.hid hA
  have HW := Lib.hid hw
  have HP := Lib.hid hp
  have HH := Lib.hid h01
  have HPQ := Lib.hid hPQ
  have HR := Lib.hid hR
  have HKN := Lib.hid hkn
  have HKA := Lib.hid hka
  obtain ⟨v, qs, hb3, how, hqs, hql⟩ := hR.ex
  have HB3 := Lib.hid hb3
  have HOW := Lib.hid how
  have HQS := Lib.hid hqs
  have HQL := Lib.hid hql
  obtain ⟨va, vc, hv⟩ := own_slice how
  obtain ⟨vn, hvn⟩ : ∃ vn, qs.length = vn := ⟨_, rfl⟩
  rw [hvn] at hv
  subst hv
  have HVN := Lib.hid hvn
  clear hA hw hp h01 hPQ hR hkn hka hb3 how hqs hql hvn
  obtain ⟨ea, el, ec, hev, hel⟩ : ∃ ea el ec, ev = .slice ea el ec ∧ el = t.cfa.expr.length := by
    obtain ⟨a, k, h⟩ := sl_form HA.out.ex.1
    exact ⟨a, _, k, h, rfl⟩
  subst hev
  have HEL := Lib.hid hel
  clear hel
  have HTK := Lib.hid HA.out.ok.1
  have er : IntKind.i64.wrap t.cfa.reg = t.cfa.reg := by have := HTK.out.2.1; exact IntWalk.i64_in _ (by omega)
  have ek : IntKind.i64.wrap (K.ret : Int) = c.ret := by
    have h1 := HA.out.rt
    have h2 := rc_facts HA.out.rc
    have h3 : (K.ret : Int) = c.ret := by rw [h1]; exact Int.toNat_of_nonneg h2.2.2.2.2.2.1
    rw [h3]; exact IntWalk.i64_in _ (by omega)
  have hx1 : x.start ≤ 1099511627776 := (fr_facts HA.out.fr).2.2.1
  have hx2 : x.size ≤ 1048576 := (fr_facts HA.out.fr).2.1
  have n01 : p0 ≠ p1 := HH.out
  have n02 : p0 ≠ p2 := blk_ne HA.out.zb.b0 HA.out.zb.b2 (by decide)
  have n03 : p0 ≠ p3 := blk_ne HA.out.zb.b0 HA.out.zb.b3 (by decide)
  have n04 : p0 ≠ p4 := blk_ne HA.out.zb.b0 HA.out.zb.b4 (by decide)
  have n05 : p0 ≠ p5 := blk_ne HA.out.zb.b0 HA.out.zb.b5 (by decide)
  have n10 : p1 ≠ p0 := HH.out.symm
  have n12 : p1 ≠ p2 := blk_ne HA.out.zb.b1 HA.out.zb.b2 (by decide)
  have n13 : p1 ≠ p3 := blk_ne HA.out.zb.b1 HA.out.zb.b3 (by decide)
  have n14 : p1 ≠ p4 := blk_ne HA.out.zb.b1 HA.out.zb.b4 (by decide)
  have n15 : p1 ≠ p5 := blk_ne HA.out.zb.b1 HA.out.zb.b5 (by decide)
  have n20 : p2 ≠ p0 := blk_ne HA.out.zb.b2 HA.out.zb.b0 (by decide)
  have n21 : p2 ≠ p1 := blk_ne HA.out.zb.b2 HA.out.zb.b1 (by decide)
  have n23 : p2 ≠ p3 := blk_ne HA.out.zb.b2 HA.out.zb.b3 (by decide)
  have n24 : p2 ≠ p4 := blk_ne HA.out.zb.b2 HA.out.zb.b4 (by decide)
  have n25 : p2 ≠ p5 := blk_ne HA.out.zb.b2 HA.out.zb.b5 (by decide)
  have n30 : p3 ≠ p0 := blk_ne HA.out.zb.b3 HA.out.zb.b0 (by decide)
  have n31 : p3 ≠ p1 := blk_ne HA.out.zb.b3 HA.out.zb.b1 (by decide)
  have n32 : p3 ≠ p2 := blk_ne HA.out.zb.b3 HA.out.zb.b2 (by decide)
  have n34 : p3 ≠ p4 := blk_ne HA.out.zb.b3 HA.out.zb.b4 (by decide)
  have n35 : p3 ≠ p5 := blk_ne HA.out.zb.b3 HA.out.zb.b5 (by decide)
  have n40 : p4 ≠ p0 := blk_ne HA.out.zb.b4 HA.out.zb.b0 (by decide)
  have n41 : p4 ≠ p1 := blk_ne HA.out.zb.b4 HA.out.zb.b1 (by decide)
  have n42 : p4 ≠ p2 := blk_ne HA.out.zb.b4 HA.out.zb.b2 (by decide)
  have n43 : p4 ≠ p3 := blk_ne HA.out.zb.b4 HA.out.zb.b3 (by decide)
  have n45 : p4 ≠ p5 := blk_ne HA.out.zb.b4 HA.out.zb.b5 (by decide)
  have n50 : p5 ≠ p0 := blk_ne HA.out.zb.b5 HA.out.zb.b0 (by decide)
  have n51 : p5 ≠ p1 := blk_ne HA.out.zb.b5 HA.out.zb.b1 (by decide)
  have n52 : p5 ≠ p2 := blk_ne HA.out.zb.b5 HA.out.zb.b2 (by decide)
  have n53 : p5 ≠ p3 := blk_ne HA.out.zb.b5 HA.out.zb.b3 (by decide)
  have n54 : p5 ≠ p4 := blk_ne HA.out.zb.b5 HA.out.zb.b4 (by decide)
  have HM : Hid (∀ g cur ty, wE.heap[g]? = some (.cells cur ty (0, 0)) → ty = 5 ∨ ty = 87 ∨ ty = 114 ∨ ty = 138 → g ∉ [p0, p1, p2, p3, p4, p5]) := by
    intro g cur ty hg hty hm
    simp only [List.mem_cons, List.not_mem_nil, or_false] at hm
    rcases hm with rfl | rfl | rfl | rfl | rfl | rfl
    · exact blk_ne hg HA.out.zb.b0 (by rcases hty with rfl | rfl | rfl | rfl <;> decide) rfl
    · exact blk_ne hg HA.out.zb.b1 (by rcases hty with rfl | rfl | rfl | rfl <;> decide) rfl
    · exact blk_ne hg HA.out.zb.b2 (by rcases hty with rfl | rfl | rfl | rfl <;> decide) rfl
    · exact blk_ne hg HA.out.zb.b3 (by rcases hty with rfl | rfl | rfl | rfl <;> decide) rfl
    · exact blk_ne hg HA.out.zb.b4 (by rcases hty with rfl | rfl | rfl | rfl <;> decide) rfl
    · exact blk_ne hg HA.out.zb.b5 (by rcases hty with rfl | rfl | rfl | rfl <;> decide) rfl
  have HMM : Hid (p0 ∈ [p0, p1, p2, p4, p5] ∧ p1 ∈ [p0, p1, p2, p4, p5] ∧ p2 ∈ [p0, p1, p2, p4, p5] ∧ p4 ∈ [p0, p1, p2, p4, p5] ∧ p5 ∈ [p0, p1, p2, p4, p5]) := by show _ ∧ _; simp
  have HL : Hid (∀ W, Fr [p0, p1, p2, p4, p5] wr W → Fr [p0, p1, p2, p3, p4, p5] wE W) := fun W f => (HR.out.fr.mono (by simp)).trans f (fun i hi _ => by simp at hi ⊢; omega)
  have HP3 : Hid (∀ W, Fr [p0, p1, p2, p4, p5] wr W → W.heap[p3]? = some (.cells #[.slice va vn vc] 30 (0, 0))) := fun W f => f.get HB3.out (by simp; exact ⟨n30, n31, n32, n34, n35⟩)
  have HS : Hid (∀ W, Fr [p0, p1, p2, p4, p5] wr W → (W.cell? ⟨fb, 3, none⟩ = some (.int .u8 t.cfa.kind) ∧ W.cell? ⟨fb, 4, none⟩ = some (.int .i64 t.cfa.n) ∧ W.cell? ⟨fb, 5, none⟩ = some (.int .u64 t.cfa.reg) ∧ W.cell? ⟨fb, 6, none⟩ = some (.slice ea el ec) ∧ W.cell? ⟨fb, 11, none⟩ = some (.int .u64 (K.ret : Int)) ∧ W.cell? ⟨p3, 0, none⟩ = some (.slice va vn vc))) := by
    intro W f
    have hfc : W.heap[fb]? = _ := (HL.out W f).get HA.out.fc (HM.out _ _ _ HA.out.fc (by simp))
    exact ⟨blk_cell hfc 3, blk_cell hfc 4, blk_cell hfc 5, blk_cell hfc 6, blk_cell hfc 11, by rw [blk_cell (HP3.out W f)]; rfl⟩
  have HFD : Hid (∀ W, Fr [p0, p1, p2, p4, p5] wr W → FdeAt W dv fd ordLE c x) := fun W f => HA.out.fd.fr (HL.out W f) (fun k cs ty hk hty => by
      rcases hty with rfl | rfl
      · exact HM.out _ _ _ hk (by simp)
      · obtain ⟨cs', h'⟩ := HA.out.fd.blk
        exact HM.out _ _ _ h' (by simp)) (fun g hg => by obtain ⟨cur, h⟩ := HA.out.dvo g hg; exact HM.out _ _ _ h (by simp))
  have HE : Hid (∀ W, Fr [p0, p1, p2, p4, p5] wr W → Sl W (.slice ea el ec) (vbs t.cfa.expr)) := fun W f => HA.out.ex.1.fr (HL.out W f) (fun g hg => by obtain ⟨cur, h⟩ := HA.out.xo g (HA.out.ex.2 g hg); exact HM.out _ _ _ h (by simp))
  have HZB : Hid (∀ W, Fr [] wr W → ZV W p0 p1 p2 p3 p4 p5 (.slice va vn vc)) := fun W f =>
    ⟨f.get (HR.out.fr.get HA.out.zb.b0 (by simpa using n03)) (by simp), f.get (HR.out.fr.get HA.out.zb.b1 (by simpa using n13)) (by simp), f.get (HR.out.fr.get HA.out.zb.b2 (by simpa using n23)) (by simp), f.get HB3.out (by simp), f.get (HR.out.fr.get HA.out.zb.b4 (by simpa using n43)) (by simp), f.get (HR.out.fr.get HA.out.zb.b5 (by simpa using n53)) (by simp)⟩
  conv => arg 2; whnf
  conv at hK9 => ext a w'; arg 1; arg 2; whnf
  go_wp2_with fail
  go_region_held3 (fun w' => w'.cell? ⟨fb, 3, none⟩ = some (.int .u8 t.cfa.kind) ∧ w'.cell? ⟨fb, 4, none⟩ = some (.int .i64 t.cfa.n) ∧ w'.cell? ⟨fb, 5, none⟩ = some (.int .u64 t.cfa.reg) ∧ w'.cell? ⟨fb, 6, none⟩ = some (.slice ea el ec) ∧ w'.cell? ⟨fb, 11, none⟩ = some (.int .u64 (K.ret : Int)) ∧ w'.cell? ⟨p3, 0, none⟩ = some (.slice va vn vc)) (exact HS.out _ (by repeat (first | with_reducible exact Fr.refl _ _ | with_reducible refine Fr.drew ?_ | with_reducible refine Fr.drewN ?_ _ | with_reducible refine Fr.setCell (p := ⟨p0, _, none⟩) ?_ (.inl HMM.out.1) _ | with_reducible refine Fr.setCell (p := ⟨p1, _, none⟩) ?_ (.inl HMM.out.2.1) _ | with_reducible refine Fr.setCell (p := ⟨p2, _, none⟩) ?_ (.inl HMM.out.2.2.1) _ | with_reducible refine Fr.setCell (p := ⟨p4, _, none⟩) ?_ (.inl HMM.out.2.2.2.1) _ | with_reducible refine Fr.setCell (p := ⟨p5, _, none⟩) ?_ (.inl HMM.out.2.2.2.2) _ | with_reducible refine Fr.same (p := p3) (t := 30) ?_ (HP3.out _ ?_) | with_reducible exact FWL.out | with_reducible refine Fr.then ?_ FI.out))) (first | (have _t := TE; go_at_call 28; go_must (refine (irule_any t.cfa (.slice ea el ec) _ (HE.out _ (by repeat (first | with_reducible exact Fr.refl _ _ | with_reducible refine Fr.drew ?_ | with_reducible refine Fr.drewN ?_ _ | with_reducible refine Fr.setCell (p := ⟨p0, _, none⟩) ?_ (.inl HMM.out.1) _ | with_reducible refine Fr.setCell (p := ⟨p1, _, none⟩) ?_ (.inl HMM.out.2.1) _ | with_reducible refine Fr.setCell (p := ⟨p2, _, none⟩) ?_ (.inl HMM.out.2.2.1) _ | with_reducible refine Fr.setCell (p := ⟨p4, _, none⟩) ?_ (.inl HMM.out.2.2.2.1) _ | with_reducible refine Fr.setCell (p := ⟨p5, _, none⟩) ?_ (.inl HMM.out.2.2.2.2) _ | with_reducible refine Fr.same (p := p3) (t := 30) ?_ (HP3.out _ ?_) | with_reducible exact FWL.out | with_reducible refine Fr.then ?_ FI.out))) (by have := HTK.out.2.2; omega) HTK.out.1).mono ?_); rintro e wI ⟨⟨vI, rfl, aI, kI, rfl, how⟩, hfI⟩; have HOI := Lib.hid how; have FI := Lib.hid hfI; have FW := Lib.hid (show Fr [] wr wI by repeat (first | with_reducible exact Fr.refl _ _ | with_reducible refine Fr.drew ?_ | with_reducible refine Fr.drewN ?_ _ | with_reducible refine Fr.setCell (p := ⟨p0, _, none⟩) ?_ (.inl HMM.out.1) _ | with_reducible refine Fr.setCell (p := ⟨p1, _, none⟩) ?_ (.inl HMM.out.2.1) _ | with_reducible refine Fr.setCell (p := ⟨p2, _, none⟩) ?_ (.inl HMM.out.2.2.1) _ | with_reducible refine Fr.setCell (p := ⟨p4, _, none⟩) ?_ (.inl HMM.out.2.2.2.1) _ | with_reducible refine Fr.setCell (p := ⟨p5, _, none⟩) ?_ (.inl HMM.out.2.2.2.2) _ | with_reducible refine Fr.same (p := p3) (t := 30) ?_ (HP3.out _ ?_) | with_reducible exact FWL.out | with_reducible refine Fr.then ?_ FI.out)); have FWL : Hid (Fr [p0, p1, p2, p4, p5] wr wI) := FW.out.mono (fun i hi _ => by cases hi); have HZ := HZB.out wI FW.out; have k00 : wI.cell? ⟨p0, 0, none⟩ = some (.int .u64 0) := blk_cell HZ.b0 0; have z00 : wI.frozen? ⟨p0, 0, none⟩ = false := blk_free HZ.b0 0; have k10 : wI.cell? ⟨p1, 0, none⟩ = some (.int .u64 0) := blk_cell HZ.b1 0; have z10 : wI.frozen? ⟨p1, 0, none⟩ = false := blk_free HZ.b1 0; have k20 : wI.cell? ⟨p2, 0, none⟩ = some (.int .i64 0) := blk_cell HZ.b2 0; have z20 : wI.frozen? ⟨p2, 0, none⟩ = false := blk_free HZ.b2 0; have k21 : wI.cell? ⟨p2, 1, none⟩ = some (.int .i64 0) := blk_cell HZ.b2 1; have z21 : wI.frozen? ⟨p2, 1, none⟩ = false := blk_free HZ.b2 1; have k22 : wI.cell? ⟨p2, 2, none⟩ = some (.int .i64 0) := blk_cell HZ.b2 2; have z22 : wI.frozen? ⟨p2, 2, none⟩ = false := blk_free HZ.b2 2; have k23 : wI.cell? ⟨p2, 3, none⟩ = some (.slice none 0 0) := blk_cell HZ.b2 3; have z23 : wI.frozen? ⟨p2, 3, none⟩ = false := blk_free HZ.b2 3; have k30 : wI.cell? ⟨p3, 0, none⟩ = some (.slice va vn vc) := blk_cell HZ.b3 0; have z30 : wI.frozen? ⟨p3, 0, none⟩ = false := blk_free HZ.b3 0; have k40 : wI.cell? ⟨p4, 0, none⟩ = some (.int .i64 0) := blk_cell HZ.b4 0; have z40 : wI.frozen? ⟨p4, 0, none⟩ = false := blk_free HZ.b4 0; have k50 : wI.cell? ⟨p5, 0, none⟩ = some (.bool false) := blk_cell HZ.b5 0; have z50 : wI.frozen? ⟨p5, 0, none⟩ = false := blk_free HZ.b5 0; clear HZ hfI how) | (have _t := TF; go_at_call 30; go_must (refine (fdeEnd_any _ dv fd _ c x (HFD.out _ (by repeat (first | with_reducible exact Fr.refl _ _ | with_reducible refine Fr.drew ?_ | with_reducible refine Fr.drewN ?_ _ | with_reducible refine Fr.setCell (p := ⟨p0, _, none⟩) ?_ (.inl HMM.out.1) _ | with_reducible refine Fr.setCell (p := ⟨p1, _, none⟩) ?_ (.inl HMM.out.2.1) _ | with_reducible refine Fr.setCell (p := ⟨p2, _, none⟩) ?_ (.inl HMM.out.2.2.1) _ | with_reducible refine Fr.setCell (p := ⟨p4, _, none⟩) ?_ (.inl HMM.out.2.2.2.1) _ | with_reducible refine Fr.setCell (p := ⟨p5, _, none⟩) ?_ (.inl HMM.out.2.2.2.2) _ | with_reducible refine Fr.same (p := p3) (t := 30) ?_ (HP3.out _ ?_) | with_reducible exact FWL.out | with_reducible refine Fr.then ?_ FI.out))) hx1 hx2).mono ?_); rintro e wz ⟨rfl, kz, rfl⟩; have TE : Hid True := Lib.hid trivial) | (go_at_call 29; go_must (refine (fdeBegin_any _ dv fd _ c x (HFD.out _ (by repeat (first | with_reducible exact Fr.refl _ _ | with_reducible refine Fr.drew ?_ | with_reducible refine Fr.drewN ?_ _ | with_reducible refine Fr.setCell (p := ⟨p0, _, none⟩) ?_ (.inl HMM.out.1) _ | with_reducible refine Fr.setCell (p := ⟨p1, _, none⟩) ?_ (.inl HMM.out.2.1) _ | with_reducible refine Fr.setCell (p := ⟨p2, _, none⟩) ?_ (.inl HMM.out.2.2.1) _ | with_reducible refine Fr.setCell (p := ⟨p4, _, none⟩) ?_ (.inl HMM.out.2.2.2.1) _ | with_reducible refine Fr.setCell (p := ⟨p5, _, none⟩) ?_ (.inl HMM.out.2.2.2.2) _ | with_reducible refine Fr.same (p := p3) (t := 30) ?_ (HP3.out _ ?_) | with_reducible exact FWL.out | with_reducible refine Fr.then ?_ FI.out)))).mono ?_); rintro e wz ⟨rfl, rfl⟩; have TF : Hid True := Lib.hid trivial))
  all_goals
    obtain ⟨q0, hq0⟩ : ∃ q : Value, q = .int .u64 (x.start : Int) := ⟨_, rfl⟩
    have HZ := HZB.out wI FW.out
    have hb0 : (((((((((wI.setCell ⟨p0, 0, none⟩ (.int .u64 (x.start : Int))).setCell ⟨p1, 0, none⟩ (.int .u64 ((x.start : Int) + (x.size : Int)))).setCell ⟨p2, 0, none⟩ (.int .i64 (kindI t.cfa.kind))).setCell ⟨p2, 1, none⟩ (.int .i64 t.cfa.reg)).setCell ⟨p2, 2, none⟩ (.int .i64 t.cfa.n)).setCell ⟨p2, 3, none⟩ (.slice aI t.cfa.expr.length kI)).setCell ⟨p3, 0, none⟩ (.slice va vn vc)).setCell ⟨p4, 0, none⟩ (.int .i64 c.ret)).setCell ⟨p5, 0, none⟩ (.bool true)).heap[p0]? = some (.cells #[.int .u64 (x.start : Int)] 23 (0, 0)) := blk_set_other (blk_set_other (blk_set_other (blk_set_other (blk_set_other (blk_set_other (blk_set_other (blk_set_other (blk_set (HZ.b0) 0 _) n01) n02) n02) n02) n02) n03) n04) n05
    have hb1 : (((((((((wI.setCell ⟨p0, 0, none⟩ (.int .u64 (x.start : Int))).setCell ⟨p1, 0, none⟩ (.int .u64 ((x.start : Int) + (x.size : Int)))).setCell ⟨p2, 0, none⟩ (.int .i64 (kindI t.cfa.kind))).setCell ⟨p2, 1, none⟩ (.int .i64 t.cfa.reg)).setCell ⟨p2, 2, none⟩ (.int .i64 t.cfa.n)).setCell ⟨p2, 3, none⟩ (.slice aI t.cfa.expr.length kI)).setCell ⟨p3, 0, none⟩ (.slice va vn vc)).setCell ⟨p4, 0, none⟩ (.int .i64 c.ret)).setCell ⟨p5, 0, none⟩ (.bool true)).heap[p1]? = some (.cells #[.int .u64 ((x.start : Int) + (x.size : Int))] 23 (0, 0)) := blk_set_other (blk_set_other (blk_set_other (blk_set_other (blk_set_other (blk_set_other (blk_set_other (blk_set (blk_set_other (HZ.b1) n10) 0 _) n12) n12) n12) n12) n13) n14) n15
    have hb2 : (((((((((wI.setCell ⟨p0, 0, none⟩ (.int .u64 (x.start : Int))).setCell ⟨p1, 0, none⟩ (.int .u64 ((x.start : Int) + (x.size : Int)))).setCell ⟨p2, 0, none⟩ (.int .i64 (kindI t.cfa.kind))).setCell ⟨p2, 1, none⟩ (.int .i64 t.cfa.reg)).setCell ⟨p2, 2, none⟩ (.int .i64 t.cfa.n)).setCell ⟨p2, 3, none⟩ (.slice aI t.cfa.expr.length kI)).setCell ⟨p3, 0, none⟩ (.slice va vn vc)).setCell ⟨p4, 0, none⟩ (.int .i64 c.ret)).setCell ⟨p5, 0, none⟩ (.bool true)).heap[p2]? = some (.cells #[.int .i64 (kindI t.cfa.kind), .int .i64 t.cfa.reg, .int .i64 t.cfa.n, .slice aI t.cfa.expr.length kI] 29 (0, 0)) := blk_set_other (blk_set_other (blk_set_other (blk_set (blk_set (blk_set (blk_set (blk_set_other (blk_set_other (HZ.b2) n20) n21) 0 _) 1 _) 2 _) 3 _) n23) n24) n25
    have hb3 : (((((((((wI.setCell ⟨p0, 0, none⟩ (.int .u64 (x.start : Int))).setCell ⟨p1, 0, none⟩ (.int .u64 ((x.start : Int) + (x.size : Int)))).setCell ⟨p2, 0, none⟩ (.int .i64 (kindI t.cfa.kind))).setCell ⟨p2, 1, none⟩ (.int .i64 t.cfa.reg)).setCell ⟨p2, 2, none⟩ (.int .i64 t.cfa.n)).setCell ⟨p2, 3, none⟩ (.slice aI t.cfa.expr.length kI)).setCell ⟨p3, 0, none⟩ (.slice va vn vc)).setCell ⟨p4, 0, none⟩ (.int .i64 c.ret)).setCell ⟨p5, 0, none⟩ (.bool true)).heap[p3]? = some (.cells #[.slice va vn vc] 30 (0, 0)) := blk_set_other (blk_set_other (blk_set (blk_set_other (blk_set_other (blk_set_other (blk_set_other (blk_set_other (blk_set_other (HZ.b3) n30) n31) n32) n32) n32) n32) 0 _) n34) n35
    have hb4 : (((((((((wI.setCell ⟨p0, 0, none⟩ (.int .u64 (x.start : Int))).setCell ⟨p1, 0, none⟩ (.int .u64 ((x.start : Int) + (x.size : Int)))).setCell ⟨p2, 0, none⟩ (.int .i64 (kindI t.cfa.kind))).setCell ⟨p2, 1, none⟩ (.int .i64 t.cfa.reg)).setCell ⟨p2, 2, none⟩ (.int .i64 t.cfa.n)).setCell ⟨p2, 3, none⟩ (.slice aI t.cfa.expr.length kI)).setCell ⟨p3, 0, none⟩ (.slice va vn vc)).setCell ⟨p4, 0, none⟩ (.int .i64 c.ret)).setCell ⟨p5, 0, none⟩ (.bool true)).heap[p4]? = some (.cells #[.int .i64 c.ret] 3 (0, 0)) := blk_set_other (blk_set (blk_set_other (blk_set_other (blk_set_other (blk_set_other (blk_set_other (blk_set_other (blk_set_other (HZ.b4) n40) n41) n42) n42) n42) n42) n43) 0 _) n45
    have hb5 : (((((((((wI.setCell ⟨p0, 0, none⟩ (.int .u64 (x.start : Int))).setCell ⟨p1, 0, none⟩ (.int .u64 ((x.start : Int) + (x.size : Int)))).setCell ⟨p2, 0, none⟩ (.int .i64 (kindI t.cfa.kind))).setCell ⟨p2, 1, none⟩ (.int .i64 t.cfa.reg)).setCell ⟨p2, 2, none⟩ (.int .i64 t.cfa.n)).setCell ⟨p2, 3, none⟩ (.slice aI t.cfa.expr.length kI)).setCell ⟨p3, 0, none⟩ (.slice va vn vc)).setCell ⟨p4, 0, none⟩ (.int .i64 c.ret)).setCell ⟨p5, 0, none⟩ (.bool true)).heap[p5]? = some (.cells #[.bool true] 4 (0, 0)) := blk_set (blk_set_other (blk_set_other (blk_set_other (blk_set_other (blk_set_other (blk_set_other (blk_set_other (blk_set_other (HZ.b5) n50) n51) n52) n52) n52) n52) n53) n54) 0 _
    have hF := (((((((((Fr.refl [p0, p1, p2, p3, p4, p5] wI).setCell (p := ⟨p0, 0, none⟩) (.inl (by simp)) (.int .u64 (x.start : Int))).setCell (p := ⟨p1, 0, none⟩) (.inl (by simp)) (.int .u64 ((x.start : Int) + (x.size : Int)))).setCell (p := ⟨p2, 0, none⟩) (.inl (by simp)) (.int .i64 (kindI t.cfa.kind))).setCell (p := ⟨p2, 1, none⟩) (.inl (by simp)) (.int .i64 t.cfa.reg)).setCell (p := ⟨p2, 2, none⟩) (.inl (by simp)) (.int .i64 t.cfa.n)).setCell (p := ⟨p2, 3, none⟩) (.inl (by simp)) (.slice aI t.cfa.expr.length kI)).setCell (p := ⟨p3, 0, none⟩) (.inl (by simp)) (.slice va vn vc)).setCell (p := ⟨p4, 0, none⟩) (.inl (by simp)) (.int .i64 c.ret)).setCell (p := ⟨p5, 0, none⟩) (.inl (by simp)) (.bool true)
    generalize (((((((((wI.setCell ⟨p0, 0, none⟩ (.int .u64 (x.start : Int))).setCell ⟨p1, 0, none⟩ (.int .u64 ((x.start : Int) + (x.size : Int)))).setCell ⟨p2, 0, none⟩ (.int .i64 (kindI t.cfa.kind))).setCell ⟨p2, 1, none⟩ (.int .i64 t.cfa.reg)).setCell ⟨p2, 2, none⟩ (.int .i64 t.cfa.n)).setCell ⟨p2, 3, none⟩ (.slice aI t.cfa.expr.length kI)).setCell ⟨p3, 0, none⟩ (.slice va vn vc)).setCell ⟨p4, 0, none⟩ (.int .i64 c.ret)).setCell ⟨p5, 0, none⟩ (.bool true)) = WF at *
    have k0 : WF.cell? ⟨p0, 0, none⟩ = some (.int .u64 (x.start : Int)) := by rw [blk_cell hb0]; rfl
    have k1 : WF.cell? ⟨p1, 0, none⟩ = some (.int .u64 ((x.start : Int) + (x.size : Int))) := by rw [blk_cell hb1]; rfl
    have k20 : WF.cell? ⟨p2, 0, none⟩ = some (.int .i64 (kindI t.cfa.kind)) := by rw [blk_cell hb2]; rfl
    have k21 : WF.cell? ⟨p2, 1, none⟩ = some (.int .i64 t.cfa.reg) := by rw [blk_cell hb2]; rfl
    have k22 : WF.cell? ⟨p2, 2, none⟩ = some (.int .i64 t.cfa.n) := by rw [blk_cell hb2]; rfl
    have k23 : WF.cell? ⟨p2, 3, none⟩ = some (.slice aI t.cfa.expr.length kI) := by rw [blk_cell hb2]; rfl
    have k3 : WF.cell? ⟨p3, 0, none⟩ = some (.slice va vn vc) := by rw [blk_cell hb3]; rfl
    have k4 : WF.cell? ⟨p4, 0, none⟩ = some (.int .i64 c.ret) := by rw [blk_cell hb4]; rfl
    have k5 : WF.cell? ⟨p5, 0, none⟩ = some (.bool true) := by rw [blk_cell hb5]; rfl
    have HF := Lib.hid hF
    clear HZ hF hb0 hb1 hb2 hb3 hb4 hb5
    go_wp2_with fail
    refine leaves_cons (f := 22) (args := #[.pointer (some ⟨p0, 0, none⟩), .pointer (some ⟨p1, 0, none⟩), .pointer (some ⟨p2, 0, none⟩), .pointer (some ⟨p3, 0, none⟩), .pointer (some ⟨p4, 0, none⟩), .pointer (some ⟨p5, 0, none⟩)]) (by simp) (by simp [go_sem]) ?_
    refine (iFrame1_idle p0 p1 p2 p3 p4 p5 _).mono ?_
    rintro e u' w'' ⟨rfl, rfl, rfl⟩
    have HZr := HZB.out wr (Fr.refl _ _)
    have hmem : ∀ {W : World} {v : Value} {g : Nat} {cur : Array Value} {ty : TypeId}, ZV W p0 p1 p2 p3 p4 p5 v → W.heap[g]? = some (.cells cur ty (0, 0)) → ty = 5 ∨ ty = 48 → g ∉ [p0, p1, p2, p3, p4, p5] := by
      intro W v g cur ty hz hg hty hm
      simp only [List.mem_cons, List.not_mem_nil, or_false] at hm
      rcases hm with rfl | rfl | rfl | rfl | rfl | rfl
      · exact blk_ne hg hz.b0 (by rcases hty with rfl | rfl <;> decide) rfl
      · exact blk_ne hg hz.b1 (by rcases hty with rfl | rfl <;> decide) rfl
      · exact blk_ne hg hz.b2 (by rcases hty with rfl | rfl <;> decide) rfl
      · exact blk_ne hg hz.b3 (by rcases hty with rfl | rfl <;> decide) rfl
      · exact blk_ne hg hz.b4 (by rcases hty with rfl | rfl <;> decide) rfl
      · exact blk_ne hg hz.b5 (by rcases hty with rfl | rfl <;> decide) rfl
    have HFr : Fr [p0, p1, p2, p3, p4, p5] wr w'' := (FW.out.mono (fun i hi _ => by cases hi)).trans HF.out (fun i hi _ => hi)
    have hown := own_fr HOI.out HF.out (fun g hg => by obtain ⟨cur, hc⟩ := own_cells HOI.out hg; exact hmem (HZB.out wI FW.out) hc (.inl rfl))
    have hrow := own_fr HOW.out HFr (fun g hg => by obtain ⟨cur, hc⟩ := own_cells HOW.out hg; exact hmem HZr hc (.inr rfl))
    have hqs : ∀ q ∈ qs, t.rules q.1 = some q.2.1 ∧ w''.ownsRow wE.heap.size 5 1 q.2.2 q.2.1.expr.length (vbs q.2.1.expr) := fun q hq => ⟨(HQL.out q hq).1, own_fr (HQL.out q hq).2 HFr (fun g hg => by obtain ⟨cur, hc⟩ := own_cells (HQL.out q hq).2 hg; exact hmem HZr hc (.inl rfl))⟩
    have hfin : Fr [] w w'' := HW.out.trans ((HR.out.fr.mono (bs := [p0, p1, p2, p3, p4, p5]) (by simp)).trans HFr (fun i hi _ => hi)) (fun i hi hlt => by have := HP.out; simp at hi; omega)
    refine ⟨.tuple #[.int .u64 (x.start : Int), .int .u64 ((x.start + x.size : Nat) : Int), .agg #[.int .i64 (kindI t.cfa.kind), .int .i64 t.cfa.reg, .int .i64 t.cfa.n, .slice aI t.cfa.expr.length kI], .slice va vn vc, .int .i64 c.ret, .bool true], by simp [results, Tryz.results10, go_sem, k0, k1, k20, k21, k22, k23, k3, k4, k5], HPQ.out _ _ ⟨_, _, qs.map fun q => (q.1, q.2.1), rfl, ⟨_, rfl, own_sl hown⟩, ?_, rows_of (by rw [HQS.out]; exact HKN.out) (fun q hq => (hqs q hq).1) (fun k r hk => by rw [HQS.out]; exact HKA.out k r hk)⟩ hfin⟩
    have hh := en_rows (by rw [HVN.out]; rw [HVN.out] at hrow; exact hrow) hqs
    exact hh
end Go.Proofs.YtahohmdfllgedaaGreat

namespace Go.Proofs.YtahohmdfllgedaaGreat
open Go.RowKit Go.MapKept
open Go.ChangeMaps (setBlock)

theorem own_le {w : World} {b b' e sz : Nat} {v : Value} {n : Nat} {xs : List Value} (h : w.ownsRow b e sz v n xs) (hb : b' ≤ b) : w.ownsRow b' e sz v n xs := by
  refine ⟨h.1, ?_⟩
  rcases h.2 with hh | ⟨g, cap, cur, hv, hg, rest⟩
  · exact .inl hh
  · exact .inr ⟨g, cap, cur, hv, Nat.le_trans hb hg, rest⟩
theorem EnR.push {wE wr wI wA wB : World} {p3 : Nat} {t : LTab} {ks : List Int} {va a6 aI : Option Addr} {vn vc c6 kI : Nat} {qs : List EQ} {key : Int} {r : LRule} (h : EnR wE p3 t ks wr) (hb3 : wr.heap[p3]? = some (.cells #[.slice va vn vc] 30 (0, 0))) (hvn : qs.length = vn) (hqs : qs.map (·.1) = ks)
    (hql : wr.ownsRow wE.heap.size 48 5 (.slice va vn vc) vn (ecells qs) ∧ ∀ q ∈ qs, t.rules q.1 = some q.2.1 ∧ wr.ownsRow wE.heap.size 5 1 q.2.2 q.2.1.expr.length (vbs q.2.1.expr)) (hk : t.rules key = some r)
    (hoI : wI.ownsRow wE.heap.size 5 1 (.slice aI r.expr.length kI) r.expr.length (vbs r.expr)) (fA : Fr [] wI wA) (fI : Fr [] wr wI) (ho : wB.ownsRow wE.heap.size 48 5 (.slice a6 (vn + 1) c6) (vn + 1) (ecells qs ++ [.int .i64 key, .int .i64 (kindI r.kind), .int .i64 r.reg, .int .i64 r.n, .slice aI r.expr.length kI])) (hf : Fr (Value.slice va vn vc).ownBlock.toList wA wB) :
    EnR wE p3 t (ks ++ [key]) (wB.setCell ⟨p3, 0, none⟩ (.slice a6 (vn + 1) c6)) := by
  have fa : Fr [] wr wA := fI.then fA
  have hrow : ∀ g, g ∈ (Value.slice va vn vc).ownBlock.toList → ∃ cur, wr.heap[g]? = some (.cells cur 48 (0, 0)) := fun g hg => own_cells hql.1 (by simpa using hg)
  have hp : p3 ∉ (Value.slice va vn vc).ownBlock.toList := fun hm => by obtain ⟨cur, hc⟩ := hrow p3 hm; exact blk_ne hb3 hc (by decide) rfl
  have fb : Fr (Value.slice va vn vc).ownBlock.toList wr wB := (fa.mono (by simp)).trans hf (fun i hi _ => hi)
  have b3 : wB.heap[p3]? = some (.cells #[.slice va vn vc] 30 (0, 0)) := fb.get hb3 hp
  have b3' : (wB.setCell ⟨p3, 0, none⟩ (.slice a6 (vn + 1) c6)).heap[p3]? = some (.cells #[.slice a6 (vn + 1) c6] 30 (0, 0)) := blk_set b3 0 _
  have fs : Fr [p3] wB (wB.setCell ⟨p3, 0, none⟩ (.slice a6 (vn + 1) c6)) := (Fr.refl _ _).setCell (.inl (by simp)) _
  have fE : Fr [p3] wE (wB.setCell ⟨p3, 0, none⟩ (.slice a6 (vn + 1) c6)) := (h.fr.trans fb (fun i hi hlt => by
      have := own_ge hql.1 (g := i) (by simpa using hi); omega)).trans fs (fun i hi _ => hi)
  have hu : ∀ {g : Nat} {cur : Array Value}, wr.heap[g]? = some (.cells cur 5 (0, 0)) → g ∉ (Value.slice va vn vc).ownBlock.toList ∧ g ∉ [p3] := fun {g cur} hg => by
    refine ⟨fun hm => ?_, fun hm => ?_⟩
    · obtain ⟨cur', hc⟩ := hrow g hm; exact blk_ne hg hc (by decide) rfl
    · simp at hm; subst hm; exact blk_ne hg hb3 (by decide) rfl
  refine ⟨fE, .slice a6 (vn + 1) c6, qs ++ [(key, r, .slice aI r.expr.length kI)], b3', ?_, by rw [List.map_append, hqs]; rfl, ?_⟩
  · rw [ecells_snoc, List.length_append, hvn]
    exact own_fr ho fs (fun g hg => by obtain ⟨cur, hc⟩ := own_cells ho hg; simp; exact blk_ne hc b3 (by decide))
  · intro q hq
    rcases List.mem_append.1 hq with hq | hq
    · obtain ⟨h1, h2⟩ := hql.2 q hq
      refine ⟨h1, own_fr (own_fr h2 fb (fun g hg => ?_)) fs (fun g hg => ?_)⟩
      · obtain ⟨cur, hc⟩ := own_cells h2 hg; exact (hu hc).1
      · obtain ⟨cur, hc⟩ := own_cells h2 hg; exact (hu hc).2
    · simp at hq; subst hq
      have hg2 : ∀ g, (Value.slice aI r.expr.length kI).ownBlock = some g → g ∉ (Value.slice va vn vc).ownBlock.toList ∧ g ∉ [p3] := fun g hg => by
        obtain ⟨cur, hc⟩ := own_cells hoI hg
        refine ⟨fun hm => ?_, fun hm => ?_⟩
        · obtain ⟨cur', hc'⟩ := hrow g hm; exact blk_ne hc (fI.get hc' (by simp)) (by decide) rfl
        · simp at hm; subst hm; exact blk_ne hc (fI.get hb3 (by simp)) (by decide) rfl
      exact ⟨hk, own_fr (own_fr (own_fr hoI fA (by simp)) hf (fun g hg => (hg2 g hg).1)) fs (fun g hg => (hg2 g hg).2)⟩

theorem en_b3 {base : Nat} {wr wA wB : World} {p3 : Nat} {v : Value} {n : Nat} {xs : List Value} {u : Value} (hb3 : wr.heap[p3]? = some (.cells #[u] 30 (0, 0))) (ho : wr.ownsRow base 48 5 v n xs) (fa : Fr [] wr wA) (hf : Fr v.ownBlock.toList wA wB) : wB.heap[p3]? = some (.cells #[u] 30 (0, 0)) :=
  hf.get (fa.get hb3 (by simp)) (fun hm => by obtain ⟨cur, hc⟩ := own_cells ho (g := p3) (by simpa using hm); exact blk_ne hb3 hc (by decide) rfl)

set_option maxRecDepth 100000 in
set_option maxHeartbeats 20000000 in
theorem Frame_T17 (w wE : World) (dv : Value) (fd fb mb ib : Nat) (ord : Value) (K : FK) (loc : Nat) (ev xv : Value) (c : LCommon) (x : LFrame) (t : LTab) (p0 p1 p2 p3 p4 p5 : Nat) (hA : FrA wE dv fd fb mb ib ord K loc ev xv c x t p0 p1 p2 p3 p4 p5) (hw : Fr [] w wE) (hp : w.heap.size ≤ p0 ∧ w.heap.size ≤ p1 ∧ w.heap.size ≤ p2 ∧ w.heap.size ≤ p3 ∧ w.heap.size ≤ p4 ∧ w.heap.size ≤ p5) (h01 : p0 ≠ p1) (PQ : Ending → World → Prop) (hPQ : ∀ e w', IFr1 w' c x (some t) e → Fr [] w w' → PQ e w')
    (ks : List Int) (ka : Option Addr) (kn kc : Nat) (hkl : ks.length = kn) (hkv : Sl wE (.slice ka kn kc) (ks.map fun k => .int .u64 k)) (hkt : ∀ g, (Value.slice ka kn kc).ownBlock = some g → g ≠ p3) (hkn : ks.Nodup) (hka : ∀ k r, t.rules k = some r → k ∈ ks) (hki : ∀ k ∈ ks, ∃ r, t.rules k = some r) (hkm : kn ≤ 65536)
    (K9 : Act → World → Prop) (hK9 : ∀ a w', Code.wp Tryz.prog (restOf (frTail 17)) (bodyPostD Tryz.prog Tryz.f10 PQ) a w' → K9 a w') (K8 : Act → World → Prop) (hK8 : ∀ a w', Code.wp Tryz.prog (restOf (headOf (frTail 17))) (Exit.then K9 (bodyPostD Tryz.prog Tryz.f10 PQ)) a w' → K8 a w')
    (s0 s1 s2 s3 s10 s11 s15 s16 s17 s18 s19 s20 s21 s22 s23 s24 s25 s26 s27 s28 s29 s30 s31 s32 s33 s34 s35 s36 s37 s38 s39 s40 s41 s42 s43 s44 s45 s46 s47 s48 s49 s50 s51 s52 s53 s54 s55 s56 s57 s58 s59 s60 s61 s62 s63 s64 s65 s66 s67 s68 s69 s70 s71 s72 s73 s74 s75 s76 s77 s78 s79 s80 s81 s82 s83 s84 s85 s86 s87 s88 s89 s90 s91 s92 s93 s94 s95 s96 s97 : Value) :
    Code.wp Tryz.prog (headOf (headOf (frTail 17))) (Exit.then K8 (Exit.then K9 (bodyPostD Tryz.prog Tryz.f10 PQ))) ⟨(s0 :: s1 :: s2 :: s3 :: .pointer (some ⟨p0, 0, none⟩) :: .pointer (some ⟨p1, 0, none⟩) :: .pointer (some ⟨p2, 0, none⟩) :: .pointer (some ⟨p3, 0, none⟩) :: .pointer (some ⟨p4, 0, none⟩) :: .pointer (some ⟨p5, 0, none⟩) :: s10 :: s11 :: .pointer (some ⟨fd, 0, none⟩) :: .pointer (some ⟨fb, 0, none⟩) :: .slice ka kn kc :: s15 :: s16 :: s17 :: s18 :: s19 :: s20 :: s21 :: s22 :: s23 :: s24 :: s25 :: s26 :: s27 :: s28 :: s29 :: s30 :: s31 :: s32 :: s33 :: s34 :: s35 :: s36 :: s37 :: s38 :: s39 :: s40 :: s41 :: s42 :: s43 :: s44 :: s45 :: s46 :: s47 :: s48 :: s49 :: s50 :: s51 :: s52 :: s53 :: s54 :: s55 :: s56 :: s57 :: s58 :: s59 :: s60 :: s61 :: s62 :: s63 :: s64 :: s65 :: s66 :: s67 :: s68 :: s69 :: s70 :: s71 :: s72 :: s73 :: s74 :: s75 :: s76 :: s77 :: s78 :: s79 :: s80 :: s81 :: s82 :: s83 :: s84 :: s85 :: s86 :: s87 :: s88 :: s89 :: s90 :: s91 :: s92 :: s93 :: s94 :: s95 :: s96 :: s97 :: []).toArray, [{ target := .fn (.func 22) #[.pointer (some ⟨p0, 0, none⟩), .pointer (some ⟨p1, 0, none⟩), .pointer (some ⟨p2, 0, none⟩), .pointer (some ⟨p3, 0, none⟩), .pointer (some ⟨p4, 0, none⟩), .pointer (some ⟨p5, 0, none⟩)], args := #[] }]⟩ wE := by
  have HA := Lib.hid hA
  have HW := Lib.hid hw
  have HP := Lib.hid hp
  have HH := Lib.hid h01
  have HPQ := Lib.hid hPQ
  have HKL := Lib.hid hkl
  have HKV := Lib.hid hkv
  have HKT := Lib.hid hkt
  have HKN := Lib.hid hkn
  have HKA := Lib.hid hka
  have HKI := Lib.hid hki
  clear hA hw hp h01 hPQ hkl hkv hkt hkn hka hki
  conv => arg 2; whnf
  conv at hK9 => ext a w'; arg 1; arg 2; whnf
  conv at hK8 => ext a w'; arg 1; arg 2; whnf
  go_wp2_with fail
  go_loopw [65] (fun i wr => ∃ k : Nat, k ≤ kn ∧ i = .int .i64 (k : Int) ∧ EnR wE p3 t (ks.take k) wr) (fun i _ => kn - (intOf i).toNat)
  case atStart => exact ⟨0, Nat.zero_le _, rfl, Fr.refl _ _, _, [], HA.out.zb.b3, World.ownsRow_nil _ _ _ _, rfl, fun q hq => by cases hq⟩
  case round =>
    obtain ⟨k, hk, rfl, hen⟩ := hrel
    have HE := Lib.hid hen
    clear hen
    by_cases hlt : k < kn
    · obtain ⟨key, hkey⟩ : ∃ key, ks[k]? = some key := ⟨_, List.getElem?_eq_getElem (by rw [HKL.out]; exact hlt)⟩
      obtain ⟨r, hr⟩ := HKI.out key (List.mem_of_getElem? hkey)
      have HRK := Lib.hid hr
      have hb := HA.out.ok.2 key r hr
      have HRO := Lib.hid hb.2
      have hkb := hb.1
      obtain ⟨g, o, c', hv, -, -, hcl⟩ := sl_some HKV.out (by rw [List.length_map, HKL.out]; omega)
      simp only [Value.slice.injEq] at hv
      obtain ⟨rfl, -, rfl⟩ := hv
      have hgk : wr.cell? ⟨g, o + k, none⟩ = some (.int .u64 key) := by
        refine HE.out.fr.cell (hcl.cell (i := k) (by simp [hkey])) ?_
        simpa using HKT.out g rfl
      have htk : ks.take (k + 1) = ks.take k ++ [key] := by
        rw [List.take_add_one, hkey]; rfl
      have HTK := Lib.hid htk
      obtain ⟨v, qs, hb3, how, hqs, hql⟩ := HE.out.ex
      obtain ⟨va, vc, hv⟩ := own_slice how
      obtain ⟨vn, hvn⟩ : ∃ vn, qs.length = vn := ⟨_, rfl⟩
      rw [hvn] at hv how
      subst hv
      have HVN := Lib.hid hvn
      have HB3 := Lib.hid hb3
      have HQS := Lib.hid hqs
      have HQL := Lib.hid (And.intro how hql)
      have hvk : vn = k := by
        have h1 := congrArg List.length hqs
        rw [List.length_map, hvn, List.length_take, HKL.out] at h1; omega
      have hvl : vn ≤ 65536 := by omega
      have HVK := Lib.hid hvk
      have c3 : wr.cell? ⟨p3, 0, none⟩ = some (.slice va vn vc) := by rw [blk_cell hb3]; rfl
      have HSZ : Hid (∀ W, Fr [] wr W → wE.heap.size ≤ W.heap.size) := fun W f => Nat.le_trans HE.out.fr.size f.size
      have HOWF : Hid (∀ W, Fr [] wr W → W.ownsRow wE.heap.size 48 5 (.slice va vn vc) vn (ecells qs)) := fun W f => own_fr HQL.out.1 f (by simp)
      have hfc := HE.out.fr.get HA.out.fc (by simpa using blk_ne HA.out.fc HA.out.zb.b3 (by decide))
      have c7 : wr.cell? ⟨fb, 7, none⟩ = some (.map (some mb)) := blk_cell hfc 7
      obtain ⟨f, hmf, hmk⟩ := HA.out.mr
      obtain ⟨ev', hfk, hex⟩ : ∃ ev', f key = some (ruleV r ev') ∧ ExV wE xv ev' r.expr := by
        rcases hmk key with ⟨h1, -⟩ | ⟨r', v', h1, h2, ev', h3, h4⟩
        · rw [hr] at h1; cases h1
        · rw [hr] at h1; obtain rfl := Option.some.inj h1
          exact ⟨ev', by rw [h2, h3], h4⟩
      obtain ⟨ea, el, ec, hev, hel⟩ : ∃ ea el ec, ev' = .slice ea el ec ∧ el = r.expr.length := by
        obtain ⟨a, k, h⟩ := sl_form hex.1
        exact ⟨a, _, k, h, rfl⟩
      subst hev
      have HEL := Lib.hid hel
      have HSE : Hid (∀ W, Fr [] wr W → Sl W (.slice ea el ec) (vbs r.expr)) := fun W f => (hex.1.fr HE.out.fr (fun g hg => by
        obtain ⟨cur, h⟩ := HA.out.xo g (hex.2 g hg); simpa using blk_ne h HA.out.zb.b3 (by decide))).fr f (by simp)
      have hmr : MapIs wr mb .u64 f := hmf.fr HE.out.fr (by simpa using fun e => cmap_ne HA.out.zb.b3 hmf e.symm)
      have hzz : ∀ w : World, (zeroValue 81).run Tryz.prog w = .ok (.agg #[.int .u8 0, .int .i64 0, .int .u64 0, .slice none 0 0]) w := fun w => by kernel_rfl
      have hlk : ∀ n, (Instr.lookup 82 (.map (some mb)) (.int .u64 key) false).run Tryz.prog (wr.drewN n) = .ok (.agg #[.int .u8 r.kind, .int .i64 r.n, .int .u64 r.reg, .slice ea el ec]) (wr.drewN n) := fun n => by
        have h := MapIs.lookup (P := Tryz.prog) (hmr.fr ((Fr.refl [] wr).drewN n) (by simp)) Tryz.underlying82 Tryz.underlying23 key _ (hzz _) false
        rw [hfk] at h; exact h
      have hlk1 : (Instr.lookup 82 (.map (some mb)) (.int .u64 key) false).run Tryz.prog wr.drew = .ok (.agg #[.int .u8 r.kind, .int .i64 r.n, .int .u64 r.reg, .slice ea el ec]) wr.drew := by
        have h := MapIs.lookup (P := Tryz.prog) (hmr.fr ((Fr.refl [] wr).drew) (by simp)) Tryz.underlying82 Tryz.underlying23 key _ (hzz _) false
        rw [hfk] at h; exact h
      have ekey : IntKind.i64.wrap key = key := IntWalk.i64_in _ (by omega)
      have ereg : IntKind.i64.wrap r.reg = r.reg := by have := HRO.out.2.1; exact IntWalk.i64_in _ (by omega)
      clear hkey hr hb hkb hcl htk how hqs hql hvn hvk hb3 hfc hmf hmk hfk hex hel hmr hzz
      go_upto_block 3 with fail
      go_cut [17] from 67 to 81 (fun s17 wx => EnR wE p3 t (ks.take (k + 1)) wx)
      case first =>
        go_wp2_with fail
        refine wp_region_noPanic ?_
        go_region_law (first | (have _t := TI; refine step_app2 sliceEn _ (by rfl) _ _ (by rfl) wE.heap.size (.slice va vn vc) vn (ecells qs) (by rfl) (HOWF.out _ (by repeat (first | with_reducible exact Fr.refl _ _ | with_reducible refine Fr.drew ?_ | with_reducible refine Fr.drewN ?_ _ | with_reducible refine Fr.alloc ?_ _ | with_reducible refine Fr.then ?_ FI.out))) (some ⟨_, 0, none⟩) 1 1 [.int .i64 key, .int .i64 (kindI r.kind), .int .i64 r.reg, .int .i64 r.n, .slice aI r.expr.length kI] (by rfl) (by rfl) (fun h => by cases h) (news_blk (blk_new _ _)) (by simp [Value.oneCell']) (by omega) (by decide) (HSZ.out _ (by repeat (first | with_reducible exact Fr.refl _ _ | with_reducible refine Fr.drew ?_ | with_reducible refine Fr.drewN ?_ _ | with_reducible refine Fr.alloc ?_ _ | with_reducible refine Fr.then ?_ FI.out))) ?_; intro a6 c6 wB ho6 hf6 hg6; have KE : Hid (EnR wE p3 t (ks.take k ++ [key]) (wB.setCell ⟨p3, 0, none⟩ (.slice a6 (vn + 1) c6))) := EnR.push HE.out HB3.out HVN.out HQS.out HQL.out HRK.out HOI.out (show Fr [] wI _ by repeat (first | with_reducible exact Fr.refl _ _ | with_reducible refine Fr.drew ?_ | with_reducible refine Fr.drewN ?_ _ | with_reducible refine Fr.alloc ?_ _)) FW.out ho6 hf6; have hB3 : wB.heap[p3]? = some (.cells #[.slice va vn vc] 30 (0, 0)) := en_b3 HB3.out HQL.out.1 (show Fr [] wr _ by repeat (first | with_reducible exact Fr.refl _ _ | with_reducible refine Fr.drew ?_ | with_reducible refine Fr.drewN ?_ _ | with_reducible refine Fr.alloc ?_ _ | with_reducible refine Fr.then ?_ FI.out)) hf6; have c3B : wB.cell? ⟨p3, 0, none⟩ = some (.slice va vn vc) := cell_of_one hB3; have z3B : wB.frozen? ⟨p3, 0, none⟩ = false := blk_free hB3 0; clear ho6 hf6 hg6 hB3) | (go_simp; go_at_call 28; go_must (refine (irule_any r (.slice ea el ec) _ (HSE.out _ (by repeat (first | with_reducible exact Fr.refl _ _ | with_reducible refine Fr.drew ?_ | with_reducible refine Fr.drewN ?_ _ | with_reducible refine Fr.alloc ?_ _ | with_reducible refine Fr.then ?_ FI.out))) (by have := HRO.out.2.2; omega) HRO.out.1).mono ?_); rintro e wI ⟨⟨vI, rfl, aI, kI, rfl, how⟩, hfI⟩; have FI := Lib.hid hfI; have FW := Lib.hid (show Fr [] wr wI by repeat (first | with_reducible exact Fr.refl _ _ | with_reducible refine Fr.drew ?_ | with_reducible refine Fr.drewN ?_ _ | with_reducible refine Fr.alloc ?_ _ | with_reducible refine Fr.then ?_ FI.out)); have HOI := Lib.hid (own_le how (HSZ.out _ (by repeat (first | with_reducible exact Fr.refl _ _ | with_reducible refine Fr.drew ?_ | with_reducible refine Fr.drewN ?_ _ | with_reducible refine Fr.alloc ?_ _ | with_reducible refine Fr.then ?_ FI.out)))); have c3I : wI.cell? ⟨p3, 0, none⟩ = some (.slice va vn vc) := FW.out.cell c3 (by simp); have c3A : ∀ o, (wI.alloc o).cell? ⟨p3, 0, none⟩ = some (.slice va vn vc) := fun o => ((Fr.refl [] wI).alloc o).cell c3I (by simp); have z3I : wI.frozen? ⟨p3, 0, none⟩ = false := blk_free (FW.out.get HB3.out (by simp)) 0; have TI : Hid True := Lib.hid trivial; clear how hfI))
        all_goals
          refine NoPanic.normal ?_
          go_wp2_with fail
          go_meet
          rw [HTK.out]
          exact KE.out
      case rest =>
        have HEN := Lib.hid hcut
        clear hcut
        go_wp2_with fail
        go_roundw
        case rel => exact ⟨k + 1, by omega, by go_num, HEN.out⟩
        case measure => simp [intOf]; omega
    · obtain rfl : k = kn := by omega
      have hen : EnR wE p3 t ks wr := by
        have h := HE.out
        rw [List.take_of_length_le (by rw [HKL.out]; omega)] at h; exact h
      go_upto_region 22 with fail
      exact Frame_T22 w wE dv fd fb mb ib ord K loc ev xv c x t p0 p1 p2 p3 p4 p5 HA.out HW.out HP.out HH.out PQ HPQ.out wr ks hen HKN.out HKA.out _ (by assumption) _ _ _ _ _ _ _ _ _ _ _ _ _ _ _ _ _ _ _ _ _ _ _ _ _ _ _ _ _ _ _ _ _ _ _ _ _ _ _ _ _ _ _ _ _ _ _ _ _ _ _ _ _ _ _ _ _ _ _ _ _ _ _ _ _ _ _ _ _ _ _ _ _ _ _ _ _ _ _ _ _ _ _ _ _ _ _ _ _ _
end Go.Proofs.YtahohmdfllgedaaGreat

namespace Go.Proofs.YtahohmdfllgedaaGreat
open Go.RowKit Go.MapKept
open Go.ChangeMaps (setBlock)

theorem sliceU : SliceT Tryz.prog 76 23 (.int .u64 0) 1 8 := ⟨Tryz.underlying76, by kernel_rfl, rfl, by decide⟩
theorem Fr.fresh {bs : List Nat} {a b : World} (h : Fr bs a b) (hb : ∀ i ∈ bs, a.heap.size ≤ i) : Fr [] a b := h.mono (fun i hi hlt => by have := hb i hi; omega)
theorem FrA.idle {w w' : World} {dv : Value} {fd fb mb ib : Nat} {ord : Value} {K : FK} {loc : Nat} {ev xv : Value} {c : LCommon} {x : LFrame} {t : LTab} {p0 p1 p2 p3 p4 p5 : Nat} (h : FrA w dv fd fb mb ib ord K loc ev xv c x t p0 p1 p2 p3 p4 p5) (f : Fr [] w w') : FrA w' dv fd fb mb ib ord K loc ev xv c x t p0 p1 p2 p3 p4 p5 :=
  ⟨h.zb.fr f, f.get h.fc (by simp), h.mr.fr f (by simp) (by simp), h.ex.fr f (by simp), fun g hg => by obtain ⟨cur, hc⟩ := h.xo g hg; exact ⟨cur, f.get hc (by simp)⟩, h.fd.idle f, fun g hg => by obtain ⟨cur, hc⟩ := h.dvo g hg; exact ⟨cur, f.get hc (by simp)⟩, h.rt, h.ok, h.rc, h.fr⟩
theorem keys_le {ks : List Int} (hn : ks.Nodup) (hb : ∀ k ∈ ks, 0 ≤ k ∧ k < 65536) : ks.length ≤ 65536 := by
  have h := nodup_le (a := ks) (b := (List.range 65536).map fun n : Nat => (n : Int)) hn (fun k hk => by
    have := hb k hk
    exact List.mem_map.2 ⟨k.toNat, List.mem_range.2 (by omega), Int.toNat_of_nonneg this.1⟩)
  simpa only [List.length_map, List.length_range] using h
theorem own_free1 {w : World} {base e n c g : Nat} {xs : List Value} (h : w.ownsRow base e 1 (.slice (some ⟨g, 0, none⟩) n c) n xs) (i : Nat) : w.frozen? ⟨g, i, none⟩ = false := by
  obtain ⟨cur, hc⟩ := own_cells h (g := g) rfl
  exact blk_free hc i

set_option maxRecDepth 100000 in
set_option maxHeartbeats 20000000 in
theorem Frame_T11 (w wE : World) (dv : Value) (fd fb mb ib : Nat) (ord : Value) (K : FK) (loc : Nat) (ev xv : Value) (c : LCommon) (x : LFrame) (t : LTab) (p0 p1 p2 p3 p4 p5 : Nat) (hA : FrA wE dv fd fb mb ib ord K loc ev xv c x t p0 p1 p2 p3 p4 p5) (hw : Fr [] w wE) (hp : w.heap.size ≤ p0 ∧ w.heap.size ≤ p1 ∧ w.heap.size ≤ p2 ∧ w.heap.size ≤ p3 ∧ w.heap.size ≤ p4 ∧ w.heap.size ≤ p5) (h01 : p0 ≠ p1) (PQ : Ending → World → Prop) (hPQ : ∀ e w', IFr1 w' c x (some t) e → Fr [] w w' → PQ e w')
    (htu : True)
    (K9 : Act → World → Prop) (hK9 : ∀ a w', Code.wp Tryz.prog (restOf (frTail 11)) (bodyPostD Tryz.prog Tryz.f10 PQ) a w' → K9 a w')
    (s0 s1 s2 s3 s10 s11 s14 s15 s16 s17 s18 s19 s20 s21 s22 s23 s24 s25 s26 s27 s28 s29 s30 s31 s32 s33 s34 s35 s36 s37 s38 s39 s40 s41 s42 s43 s44 s45 s46 s47 s48 s49 s50 s51 s52 s53 s54 s55 s56 s57 s58 s59 s60 s61 s62 s63 s64 s65 s66 s67 s68 s69 s70 s71 s72 s73 s74 s75 s76 s77 s78 s79 s80 s81 s82 s83 s84 s85 s86 s87 s88 s89 s90 s91 s92 s93 s94 s95 s96 s97 : Value) :
    Code.wp Tryz.prog (headOf (frTail 11)) (Exit.then K9 (bodyPostD Tryz.prog Tryz.f10 PQ)) ⟨(s0 :: s1 :: s2 :: s3 :: .pointer (some ⟨p0, 0, none⟩) :: .pointer (some ⟨p1, 0, none⟩) :: .pointer (some ⟨p2, 0, none⟩) :: .pointer (some ⟨p3, 0, none⟩) :: .pointer (some ⟨p4, 0, none⟩) :: .pointer (some ⟨p5, 0, none⟩) :: s10 :: s11 :: .pointer (some ⟨fd, 0, none⟩) :: .pointer (some ⟨fb, 0, none⟩) :: s14 :: s15 :: s16 :: s17 :: s18 :: s19 :: s20 :: s21 :: s22 :: s23 :: s24 :: s25 :: s26 :: s27 :: s28 :: s29 :: s30 :: s31 :: s32 :: s33 :: s34 :: s35 :: s36 :: s37 :: s38 :: s39 :: s40 :: s41 :: s42 :: s43 :: s44 :: s45 :: s46 :: s47 :: s48 :: s49 :: s50 :: s51 :: s52 :: s53 :: s54 :: s55 :: s56 :: s57 :: s58 :: s59 :: s60 :: s61 :: s62 :: s63 :: s64 :: s65 :: s66 :: s67 :: s68 :: s69 :: s70 :: s71 :: s72 :: s73 :: s74 :: s75 :: s76 :: s77 :: s78 :: s79 :: s80 :: s81 :: s82 :: s83 :: s84 :: s85 :: s86 :: s87 :: s88 :: s89 :: s90 :: s91 :: s92 :: s93 :: s94 :: s95 :: s96 :: s97 :: []).toArray, [{ target := .fn (.func 22) #[.pointer (some ⟨p0, 0, none⟩), .pointer (some ⟨p1, 0, none⟩), .pointer (some ⟨p2, 0, none⟩), .pointer (some ⟨p3, 0, none⟩), .pointer (some ⟨p4, 0, none⟩), .pointer (some ⟨p5, 0, none⟩)], args := #[] }]⟩ wE := by
  have HA := Lib.hid hA
  have HW := Lib.hid hw
  have HP := Lib.hid hp
  have HH := Lib.hid h01
  have HPQ := Lib.hid hPQ
  obtain ⟨f, hm, hmk⟩ := hA.mr
  have HM := Lib.hid hm
  have HMK := Lib.hid hmk
  obtain ⟨es, clock, hb, hst, hks, hf⟩ := hm
  have HS := Lib.hid hst
  have HKS := Lib.hid hks
  have HF := Lib.hid hf
  have HB := Lib.hid hb
  have c7 : wE.cell? ⟨fb, 7, none⟩ = some (.map (some mb)) := blk_cell hA.fc 7
  have hrg := run_range_map (P := Tryz.prog) wE 82 23 81 mb es clock Tryz.underlying82 hb
  have HKB : Hid (∀ seen ks, SeenK es seen .u64 ks → (∀ k ∈ ks, ∃ r, t.rules k = some r) ∧ ∀ k ∈ ks, 0 ≤ k ∧ k < 65536) := fun seen ks h => by
    have h1 : ∀ k ∈ ks, ∃ r, t.rules k = some r := fun k hk => by
      obtain ⟨x, hx, -, hxk⟩ := (h.2.2 k).1 hk
      have hfk := (hf k x.val).2 ⟨x, hx, hxk, rfl⟩
      rcases hmk k with ⟨-, h2⟩ | ⟨r, v, h1, -⟩
      · rw [hfk] at h2; cases h2
      · exact ⟨r, h1⟩
    exact ⟨h1, fun k hk => by obtain ⟨r, hr⟩ := h1 k hk; exact (hA.ok.2 k r hr).1⟩
  have HMS : Hid (∀ k, (t.rules k).isSome = (f k).isSome) := fun k => by
    rcases hmk k with ⟨h1, h2⟩ | ⟨r, v, h1, h2, -⟩
    · rw [h1, h2]; rfl
    · rw [h1, h2]; rfl
  clear hA hw hp h01 hPQ hmk hb hst hks hf
  conv => arg 2; whnf
  conv at hK9 => ext a w'; arg 1; arg 2; whnf
  go_upto_region 13 with fail
  have F0 : Hid (Fr [] wE (wE.alloc (.mapIter (some mb) clock #[] clock))) := (Fr.refl _ _).alloc _
  have hr0 := blk_new wE (.mapIter (some mb) clock #[] clock)
  generalize wE.alloc (.mapIter (some mb) clock #[] clock) = w0 at *
  have HR0 := Lib.hid hr0
  clear hr0 hrg c7
  obtain ⟨r, hr⟩ : ∃ r, wE.heap.size = r := ⟨_, rfl⟩
  rw [hr] at HR0
  simp only [hr]
  have HRN := Lib.hid hr
  clear hr
  go_loopw [14] (fun v wr => ∃ seen ks a c, v = .slice a (List.length ks) c ∧ wr.heap[r]? = some (.mapIter (some mb) clock seen clock) ∧ SeenK es seen .u64 ks ∧ wr.ownsRow w0.heap.size 23 1 (.slice a ks.length c) ks.length (ks.map fun k => Value.int .u64 k) ∧ Fr [r] w0 wr) (fun _ wr => (leftOf es (wr.iterSeen r)).size)
  case atStart => exact ⟨#[], [], none, 0, rfl, HR0.out, SeenK.nil _ _, World.ownsRow_nil _ _ _ _, Fr.refl _ _⟩
  case round =>
    obtain ⟨seen, ks, a, cp, rfl, hir, hsk, how, hfr⟩ := hrel
    have HIR := Lib.hid hir
    have HSK := Lib.hid hsk
    have HOW := Lib.hid how
    have HFR := Lib.hid hfr
    have hmr : mb ≠ r := fun e => by
      have h1 := F0.out.get HB.out (by simp)
      rw [e, HR0.out] at h1; cases h1
    have hbr : wr.heap[mb]? = some (.map es clock) := hfr.get (F0.out.get HB.out (by simp)) (by simpa using hmr)
    have HBR := Lib.hid hbr
    have hkl : ks.length ≤ 65536 := keys_le hsk.1 (HKB.out seen ks hsk).2
    rcases run_next_at (P := Tryz.prog) wr 0 r mb clock clock seen es clock hir hbr HS.out.1 (Nat.le_refl _) with ⟨h0, hrun⟩ | ⟨x0, hxm, w1, hal, hrun⟩
    · have hnx : ∀ ty, (Instr.next (.pointer (some ⟨r, 0, none⟩)) false ty).run Tryz.prog wr = .ok (.tuple #[.bool false]) wr := fun _ => hrun
      have H0 := Lib.hid h0
      clear hir hsk how hfr hbr hrun h0
      obtain ⟨hn1, hn2, hn3⟩ := HSK.out.all H0.out HS.out HKS.out HF.out
      have HN1 := Lib.hid hn1
      have HN3 : Hid (∀ k, k ∈ ks ↔ (t.rules k).isSome = true) := fun k => by rw [HMS.out k]; exact hn3 k
      have hF : Fr [] wE wr := F0.out.trans HFR.out (fun i hi hlt => by have := HRN.out; simp at hi; omega)
      have HFE := Lib.hid hF
      clear hn1 hn2 hn3 hF
      go_upto_region 16 with fail
      by_cases hke : ks = []
      · subst hke
        obtain ⟨g0, hg0⟩ : ∃ n : Nat, ([] : List Int).length = n := ⟨_, rfl⟩
        have hnil := own_sl HOW.out
        have HNL := Lib.hid hnil
        clear hnil hg0
        go_upto_region 17 with (go_at_call 27; go_must (refine (Gs.So_Sort_int_nil a cp wr).mono ?_); rintro e W2 ⟨rfl, rfl⟩)
        exact Frame_T17 w W2 dv fd fb mb ib ord K loc ev xv c x t p0 p1 p2 p3 p4 p5 (HA.out.idle HFE.out) (HW.out.then HFE.out) HP.out HH.out PQ HPQ.out [] a 0 cp rfl HNL.out (fun g hg => by
            have h1 := own_ge HOW.out hg
            have h2 := lt_heap HA.out.zb.b3
            have h3 := F0.out.size
            omega) List.nodup_nil (fun k r hr => (HN3.out k).2 (by rw [hr]; rfl)) (fun k hk => by cases hk) (by omega) _ (by assumption) _ (by assumption) _ _ _ _ _ _ _ _ _ _ _ _ _ _ _ _ _ _ _ _ _ _ _ _ _ _ _ _ _ _ _ _ _ _ _ _ _ _ _ _ _ _ _ _ _ _ _ _ _ _ _ _ _ _ _ _ _ _ _ _ _ _ _ _ _ _ _ _ _ _ _ _ _ _ _ _ _ _ _ _ _ _ _ _ _ _ _ _ _
      · obtain ⟨g, cp', hv, hgb, hnc, hcm⟩ := own_some HOW.out (List.length_pos_iff.2 hke)
        simp only [Value.slice.injEq] at hv
        obtain ⟨rfl, -, rfl⟩ := hv
        have hH : Go.Sort.Holds (Value.int .u64) wr g 0 ks.toArray := by
          intro j hj
          have hj2 : j < ks.length := by simpa using hj
          refine ⟨?_, own_free1 HOW.out _⟩
          have h := HOW.out.cells (g := g) rfl j (.int .u64 ks[j]) (by rw [List.getElem?_map, List.getElem?_eq_getElem hj2]; rfl)
          rw [Addr.add_lit] at h
          rw [h, getElem!_pos _ j (by simpa using hj2)]; simp
        obtain ⟨cur, hcur⟩ := own_cells HOW.out (g := g) rfl
        have hgl : g < wr.heap.size := lt_heap hcur
        have hg3 : g ≠ p3 := by
          have h2 := lt_heap HA.out.zb.b3
          have h3 := F0.out.size
          omega
        have HG3 := Lib.hid hg3
        have hso : (Calls Tryz.prog 27 #[.slice (some ⟨g, 0, none⟩) ks.length cp] wr fun e w' => e = .returned (.tuple #[]) ∧ ∃ d' : Array Int, d'.size = ks.length ∧ d'.toList.Perm ks ∧ Go.Sort.Holds (Value.int .u64) w' g 0 d' ∧ Fr [g] wr w') := by
          have h := Gs.SortU_any g cp ks.toArray wr hH hgl (by simp; omega)
          simpa using h
        have HSO := Lib.hid hso
        clear hso
        have hgE : wE.heap.size ≤ g := Nat.le_trans F0.out.size hgb
        have hcm' := hcm
        unfold maxLen at hcm'
        have HGE := Lib.hid (And.intro hgE (And.intro hnc hcm'))
        clear hH hcur hgl hg3 hgE hcm hcm' hgb hnc
        go_upto_region 17 with (go_at_call 27; go_must (refine HSO.out.mono ?_); rintro e W2 ⟨rfl, d', hds, hdp, hdh, hdf⟩; have HDS := Lib.hid hds; have HDP := Lib.hid hdp; have HDH := Lib.hid hdh; have HDF := Lib.hid hdf; clear hds hdp hdh hdf)
        have hfe : Fr [] wE W2 := (HFE.out.mono (bs := [g]) (by simp)).trans HDF.out (fun i hi _ => hi) |>.fresh (fun i hi => by have := HGE.out.1; simp at hi; omega)
        have hmem : ∀ k, k ∈ d'.toList ↔ k ∈ ks := fun k => HDP.out.mem_iff
        have hdl : d'.toList.length = ks.length := HDP.out.length_eq
        refine Frame_T17 w W2 dv fd fb mb ib ord K loc ev xv c x t p0 p1 p2 p3 p4 p5 (HA.out.idle hfe) (HW.out.then hfe) HP.out HH.out PQ HPQ.out d'.toList (some ⟨g, 0, none⟩) ks.length cp hdl ?_ (fun g' hg' => by simp [Value.ownBlock] at hg'; subst hg'; exact HG3.out) (HDP.out.nodup_iff.2 HN1.out) (fun k r hr => (hmem k).2 ((HN3.out k).2 (by rw [hr]; rfl))) (fun k hk => (Option.isSome_iff_exists.1 ((HN3.out k).1 ((hmem k).1 hk)))) hkl _ (by assumption) _ (by assumption) _ _ _ _ _ _ _ _ _ _ _ _ _ _ _ _ _ _ _ _ _ _ _ _ _ _ _ _ _ _ _ _ _ _ _ _ _ _ _ _ _ _ _ _ _ _ _ _ _ _ _ _ _ _ _ _ _ _ _ _ _ _ _ _ _ _ _ _ _ _ _ _ _ _ _ _ _ _ _ _ _ _ _ _ _ _ _ _ _
        refine .inr ⟨⟨g, 0, none⟩, cp, by rw [List.length_map, hdl], by rw [List.length_map, hdl]; exact HGE.out.2.1, by have := HGE.out.2.2; unfold maxLen; exact this, fun i u hu => ?_⟩
        rw [List.getElem?_map] at hu
        obtain ⟨k, hk, rfl⟩ := Option.map_eq_some_iff.1 hu
        obtain ⟨hi, rfl⟩ := List.getElem?_eq_some_iff.1 hk
        have h := (HDH.out i (by simpa using hi)).1
        rw [getElem!_pos d' i (by simpa using hi)] at h
        rw [Addr.add_lit, h]; simp
    · have hxe := (mem_left hxm).1
      obtain ⟨n, hn⟩ := isKey_int (HKS.out x0 hxe)
      obtain ⟨W1, hW1⟩ : ∃ W1, setBlock w1 r (.mapIter (some mb) clock (seen.push x0.born) clock) = W1 := ⟨_, rfl⟩
      have hr1 : w1.heap[r]? = some (.mapIter (some mb) clock seen clock) := by rcases hal with rfl | rfl <;> exact hir
      have hf1 : Fr [r] wr W1 := by
        rw [← hW1]
        have h1 : Fr [r] wr w1 := by rcases hal with rfl | rfl; exact Fr.refl _ _; exact (Fr.refl _ _).drew
        exact h1.trans (setBlock_fr w1 r _) (fun i h _ => h)
      have hrw : W1.heap[r]? = some (.mapIter (some mb) clock (seen.push x0.born) clock) := by rw [← hW1]; exact setBlock_get hr1
      have hbw : W1.heap[mb]? = some (.map es clock) := hf1.get hbr (by simpa using hmr)
      obtain ⟨y, hy⟩ : ∃ y, x0.val = y := ⟨_, rfl⟩
      rw [hW1, hn, hy] at hrun
      have hnx : ∀ ty, (Instr.next (.pointer (some ⟨r, 0, none⟩)) false ty).run Tryz.prog wr = .ok (.tuple #[.bool true, .int .u64 n, y]) W1 := fun _ => hrun
      have hen := run_entry_at (P := Tryz.prog) W1 r mb clock seen es clock x0 hrw hbw hxe HS.out.2.1
      rw [hn, hy] at hen
      have hrr : ∀ g, (Value.slice a ks.length cp).ownBlock = some g → g ≠ r := fun g hg => by
        have h1 := own_ge how hg
        have h2 := lt_heap HR0.out
        omega
      have HRR := Lib.hid hrr
      have HO1 : Hid (∀ W, Fr [] W1 W → W.ownsRow w0.heap.size 23 1 (.slice a ks.length cp) ks.length (ks.map fun k => Value.int .u64 k)) := fun W f => own_fr (own_fr how hf1 (fun g hg => by simpa using hrr g hg)) f (by simp)
      have HSZ : Hid (∀ W, Fr [] W1 W → w0.heap.size ≤ W.heap.size) := fun W f => Nat.le_trans (Nat.le_trans hfr.size hf1.size) f.size
      have HF1 := Lib.hid hf1
      have HRW := Lib.hid hrw
      have HXM := Lib.hid hxm
      have HN := Lib.hid hn
      clear hir hsk how hfr hbr hrun hxm hW1 hr1 hf1 hrw hbw hal hxe hn hmr hy hrr
      go_wp2_with (at_builtin; go_must (refine wpList_app2 sliceU _ rfl _ _ rfl w0.heap.size _ ks.length (ks.map fun k => Value.int .u64 k) rfl (HO1.out _ (by repeat (first | with_reducible exact Fr.refl _ _ | with_reducible refine Fr.drew ?_ | with_reducible refine Fr.drewN ?_ _ | with_reducible refine Fr.alloc ?_ _))) (some ⟨_, 0, none⟩) 1 1 [.int .u64 n] rfl rfl (fun h => by cases h) (news_blk (blk_new _ _)) (by simp [Value.oneCell']) (by omega) (by decide) (HSZ.out _ (by repeat (first | with_reducible exact Fr.refl _ _ | with_reducible refine Fr.drew ?_ | with_reducible refine Fr.drewN ?_ _ | with_reducible refine Fr.alloc ?_ _))) ?_))
      rintro a6 c6 W2 ho6 hf6 hg6
      have HO6 := Lib.hid ho6
      have HF6 := Lib.hid hf6
      clear ho6 hf6 hg6
      go_wp2_with fail
      go_roundw
      case rel =>
        have hf12 : Fr (Value.slice a ks.length cp).ownBlock.toList W1 W2 := ((Fr.refl _ _).alloc _).trans HF6.out (fun i hi _ => hi)
        have hr2 : W2.heap[r]? = some (.mapIter (some mb) clock (seen.push x0.born) clock) := hf12.get HRW.out (fun hm => HRR.out r (by simpa using hm) rfl)
        refine ⟨_, ks ++ [n], a6, c6, by simp, hr2, ?_, ?_, ?_⟩
        · exact HSK.out.push HS.out HKS.out (mem_left HXM.out).1 (mem_left HXM.out).2 HN.out
        · have h := HO6.out
          simpa using h
        · exact (HFR.out.trans HF1.out (fun i hi _ => hi)).trans hf12 (fun i hi hlt => by
            have h1 := own_ge HOW.out (g := i) (by simpa using hi); omega)
      case measure =>
        have hf12 : Fr (Value.slice a ks.length cp).ownBlock.toList W1 W2 := ((Fr.refl _ _).alloc _).trans HF6.out (fun i hi _ => hi)
        have hr2 : W2.heap[r]? = some (.mapIter (some mb) clock (seen.push x0.born) clock) := hf12.get HRW.out (fun hm => HRR.out r (by simpa using hm) rfl)
        have e1 : W2.iterSeen r = seen.push x0.born := by unfold World.iterSeen; rw [hr2]
        have e2 : wr.iterSeen r = seen := by unfold World.iterSeen; rw [HIR.out]
        rw [e1, e2]
        exact left_shrinks es seen x0 HXM.out
end Go.Proofs.YtahohmdfllgedaaGreat

namespace Go.Proofs.YtahohmdfllgedaaGreat
open Go.RowKit

/-- Frames with their common entries. -/
def prs (l : List LCommon) : List (LCommon × LFrame) := l.flatMap fun c => c.frames.map fun f => (c, f)
theorem prs_snd (l : List LCommon) : (prs l).map (·.2) = allFr l := by simp [prs, allFr, List.map_flatMap, List.map_map, Function.comp_def]
theorem prs_mem {l : List LCommon} {c : LCommon} {f : LFrame} : (c, f) ∈ prs l ↔ c ∈ l ∧ f ∈ c.frames := by
  unfold prs
  rw [List.mem_flatMap]
  constructor
  · rintro ⟨c', h1, h2⟩
    obtain ⟨f', h3, h4⟩ := List.mem_map.1 h2
    cases h4; exact ⟨h1, h3⟩
  · rintro ⟨h1, h2⟩; exact ⟨c, h1, List.mem_map.2 ⟨f, h2, rfl⟩⟩
theorem prs_apart {l : List LCommon} (h : Apart (allFr l)) (i j : Nat) (p q : LCommon × LFrame) (hij : i < j) (hi : (prs l)[i]? = some p) (hj : (prs l)[j]? = some q) : p.2.start + p.2.size ≤ q.2.start := by
  have e := prs_snd l
  have h1 : (allFr l)[i]? = some p.2 := by rw [← e, List.getElem?_map, hi]; rfl
  have h2 : (allFr l)[j]? = some q.2 := by rw [← e, List.getElem?_map, hj]; rfl
  obtain ⟨a1, a2⟩ := List.getElem?_eq_some_iff.1 h1
  obtain ⟨b1, b2⟩ := List.getElem?_eq_some_iff.1 h2
  have := h j i hij b1 a1
  rw [a2, b2] at this; exact this
/-- A place lies in one frame at most. -/
theorem prs_one {l : List LCommon} (h : Apart (allFr l)) {pc i : Nat} {p q : LCommon × LFrame} (hi : (prs l)[i]? = some p) (hq : q ∈ prs l) (h1 : inF p.2 pc = true) (h2 : inF q.2 pc = true) : p = q := by
  obtain ⟨j, hj⟩ := List.mem_iff_getElem?.1 hq
  simp only [inF, decide_eq_true_eq] at h1 h2
  rcases Nat.lt_trichotomy i j with hij | rfl | hij
  · have := prs_apart h i j p q hij hi hj; omega
  · rw [hi] at hj; exact Option.some.inj hj
  · have := prs_apart h j i q p hij hj hi; omega

/-- What impl.Frame answers. -/
def IFr (w : World) (X : List (LCommon × LFrame)) (pc : Nat) (e : Ending) (w' : World) : Prop :=
  Fr [] w w' ∧ (((∀ p ∈ X, inF p.2 pc = false) ∧ e = .returned zeroI) ∨ ∃ (k : Nat) (c : LCommon) (x : LFrame), X[k]? = some (c, x) ∧ inF x pc = true ∧ IFr1 w' c x (iRules c x pc) e)
/-- Its answer, as FnFrames reads it. -/
theorem IFr.short {w w' : World} {l : List LCommon} {pc : Nat} {e : Ending} (hA : Apart (allFr l)) (h : IFr w (prs l) pc e w') (hb : ∀ p ∈ prs l, p.2.start ≤ 1099511627776 ∧ p.2.size ≤ 1048576) :
    ∃ (B E : Nat) (ck cr cn : Int) (sa : Option Addr) (sn sc : Nat) (rv rt : Value) (o : Bool), e = .returned (.tuple #[.int .u64 (B : Int), .int .u64 (E : Int), .agg #[.int .i64 ck, .int .i64 cr, .int .i64 cn, .slice sa sn sc], rv, rt, .bool o]) ∧ B < 18446744073709551616 ∧ E < 18446744073709551616 ∧ Fr [] w w' ∧
      ((∀ p ∈ prs l, inF p.2 pc = false) → o = false) ∧ ∀ q ∈ prs l, inF q.2 pc = true → ∀ t, iRules q.1 q.2 pc = some t → B = q.2.start ∧ E = q.2.start + q.2.size ∧ o = true := by
  obtain ⟨hf, ⟨h1, rfl⟩ | ⟨k, c, x, hk, hx, h1⟩⟩ := h
  · refine ⟨0, 0, 0, 0, 0, _, _, _, _, _, false, rfl, by omega, by omega, hf, fun _ => rfl, fun q hq h2 => ?_⟩
    rw [h1 q hq] at h2; cases h2
  · cases ho : iRules c x pc with
    | none =>
      rw [ho] at h1
      refine ⟨0, 0, 0, 0, 0, _, _, _, _, _, false, h1, by omega, by omega, hf, fun _ => rfl, fun q hq h2 t ht => ?_⟩
      obtain rfl := prs_one hA hk hq hx h2
      rw [ho] at ht; cases ht
    | some t =>
      rw [ho] at h1
      obtain ⟨cv, rv, l', rfl, ⟨ca, rfl, hsl⟩, -⟩ := h1
      obtain ⟨sa, sc, rfl⟩ := sl_form hsl
      have hm := hb _ (List.mem_of_getElem? hk)
      refine ⟨x.start, x.start + x.size, _, _, _, _, _, _, _, _, true, rfl, by have := hm.1; simp only at this; omega, by have := hm.1; have := hm.2; simp only at *; omega, hf, fun h => ?_, fun q hq h2 t' ht => ?_⟩
      · have := h _ (List.mem_of_getElem? hk)
        rw [hx] at this; cases this
      · obtain rfl := prs_one hA hk hq hx h2
        exact ⟨rfl, rfl, rfl⟩
end Go.Proofs.YtahohmdfllgedaaGreat

namespace Go.Proofs.YtahohmdfllgedaaGreat
open Go.RowKit Go.MapKept
open Go.ChangeMaps (setBlock)

theorem ccB_crB {x : LCall} (h : ccB x = true) : crB x = true := by
  simp only [ccB, Bool.and_eq_true] at h; exact h.1.1.1.1.1.1.1
theorem cfB_crB {x : LCall} (h : cfB x = true) : crB x = true := by
  simp only [cfB, Bool.and_eq_true] at h; exact h.1
theorem ctxV_own {w : World} {base e sz : Nat} {v : Value} {n : Nat} {xs : List Value} (h : w.ownsRow base e sz v n xs) : ∀ g, v.ownBlock = some g → ∃ cur, w.heap[g]? = some (.cells cur e (0, 0)) := fun _ hg => own_cells h hg

set_option maxRecDepth 100000 in
set_option maxHeartbeats 20000000 in
theorem iFrame_any (a : Option Addr) (cp : Nat) (D : List UInt8) (l : List LCommon) (pc : Nat) (w : World) (I : ItemsOk (itemsFrom 0 l) D) (hs : Sl w (.slice a D.length cp) (vbs D)) (hA : Apart (allFr l)) (hr : ∀ c ∈ l, rcB c = true) (hi : ∀ c ∈ l, (∀ y ∈ c.calls, i64 y.a ∧ i64 y.b) ∧ ∀ f ∈ c.frames, ∀ y ∈ f.calls, i64 y.a ∧ i64 y.b) (hp : pc < 18446744073709551616) :
    Calls Tryz.prog 10 #[.slice a D.length cp, .int .u64 (pc : Int)] w (IFr w (prs l) pc) := by
  have hmf : ∀ (fn : Fn) (first cap : Array Value) (w : World), (Instr.makeFunc fn first cap).run Tryz.prog w = .ok (.func fn first cap) w := fun _ _ _ _ => rfl
  have HI := Lib.hid I
  have Hs := Lib.hid hs
  have HA := Lib.hid hA
  have HR := Lib.hid hr
  have HJ := Lib.hid hi
  have hl := I.hl
  have hfe : fdes (itemsFrom 0 l) = prs l := fdes_items l 0
  have HFE := Lib.hid hfe
  clear I hs hA hr hi hfe
  have hz0 : ZB ((((((w.alloc (.cells #[.int .u64 0] 23)).alloc (.cells #[.int .u64 0] 23)).alloc (.cells #[.int .i64 0, .int .i64 0, .int .i64 0, .slice none 0 0] 29)).alloc (.cells #[.slice none 0 0] 30)).alloc (.cells #[.int .i64 0] 3)).alloc (.cells #[.bool false] 4)) (w.heap.size) (w.heap.size + 1) (w.heap.size + 1 + 1) (w.heap.size + 1 + 1 + 1) (w.heap.size + 1 + 1 + 1 + 1) (w.heap.size + 1 + 1 + 1 + 1 + 1) := by
    have h0 : ((((((w.alloc (.cells #[.int .u64 0] 23)).alloc (.cells #[.int .u64 0] 23)).alloc (.cells #[.int .i64 0, .int .i64 0, .int .i64 0, .slice none 0 0] 29)).alloc (.cells #[.slice none 0 0] 30)).alloc (.cells #[.int .i64 0] 3)).alloc (.cells #[.bool false] 4)).heap[w.heap.size]? = some (.cells #[.int .u64 0] 23 (0, 0)) := by
      have h := blk_new w (.cells #[.int .u64 0] 23)
      try simp only [World.size_alloc] at h
      exact blk_alloc (blk_alloc (blk_alloc (blk_alloc (blk_alloc (h)))))
    have h1 : ((((((w.alloc (.cells #[.int .u64 0] 23)).alloc (.cells #[.int .u64 0] 23)).alloc (.cells #[.int .i64 0, .int .i64 0, .int .i64 0, .slice none 0 0] 29)).alloc (.cells #[.slice none 0 0] 30)).alloc (.cells #[.int .i64 0] 3)).alloc (.cells #[.bool false] 4)).heap[w.heap.size + 1]? = some (.cells #[.int .u64 0] 23 (0, 0)) := by
      have h := blk_new (w.alloc (.cells #[.int .u64 0] 23)) (.cells #[.int .u64 0] 23)
      try simp only [World.size_alloc] at h
      exact blk_alloc (blk_alloc (blk_alloc (blk_alloc (h))))
    have h2 : ((((((w.alloc (.cells #[.int .u64 0] 23)).alloc (.cells #[.int .u64 0] 23)).alloc (.cells #[.int .i64 0, .int .i64 0, .int .i64 0, .slice none 0 0] 29)).alloc (.cells #[.slice none 0 0] 30)).alloc (.cells #[.int .i64 0] 3)).alloc (.cells #[.bool false] 4)).heap[w.heap.size + 1 + 1]? = some (.cells #[.int .i64 0, .int .i64 0, .int .i64 0, .slice none 0 0] 29 (0, 0)) := by
      have h := blk_new ((w.alloc (.cells #[.int .u64 0] 23)).alloc (.cells #[.int .u64 0] 23)) (.cells #[.int .i64 0, .int .i64 0, .int .i64 0, .slice none 0 0] 29)
      try simp only [World.size_alloc] at h
      exact blk_alloc (blk_alloc (blk_alloc (h)))
    have h3 : ((((((w.alloc (.cells #[.int .u64 0] 23)).alloc (.cells #[.int .u64 0] 23)).alloc (.cells #[.int .i64 0, .int .i64 0, .int .i64 0, .slice none 0 0] 29)).alloc (.cells #[.slice none 0 0] 30)).alloc (.cells #[.int .i64 0] 3)).alloc (.cells #[.bool false] 4)).heap[w.heap.size + 1 + 1 + 1]? = some (.cells #[.slice none 0 0] 30 (0, 0)) := by
      have h := blk_new (((w.alloc (.cells #[.int .u64 0] 23)).alloc (.cells #[.int .u64 0] 23)).alloc (.cells #[.int .i64 0, .int .i64 0, .int .i64 0, .slice none 0 0] 29)) (.cells #[.slice none 0 0] 30)
      try simp only [World.size_alloc] at h
      exact blk_alloc (blk_alloc (h))
    have h4 : ((((((w.alloc (.cells #[.int .u64 0] 23)).alloc (.cells #[.int .u64 0] 23)).alloc (.cells #[.int .i64 0, .int .i64 0, .int .i64 0, .slice none 0 0] 29)).alloc (.cells #[.slice none 0 0] 30)).alloc (.cells #[.int .i64 0] 3)).alloc (.cells #[.bool false] 4)).heap[w.heap.size + 1 + 1 + 1 + 1]? = some (.cells #[.int .i64 0] 3 (0, 0)) := by
      have h := blk_new ((((w.alloc (.cells #[.int .u64 0] 23)).alloc (.cells #[.int .u64 0] 23)).alloc (.cells #[.int .i64 0, .int .i64 0, .int .i64 0, .slice none 0 0] 29)).alloc (.cells #[.slice none 0 0] 30)) (.cells #[.int .i64 0] 3)
      try simp only [World.size_alloc] at h
      exact blk_alloc (h)
    have h5 : ((((((w.alloc (.cells #[.int .u64 0] 23)).alloc (.cells #[.int .u64 0] 23)).alloc (.cells #[.int .i64 0, .int .i64 0, .int .i64 0, .slice none 0 0] 29)).alloc (.cells #[.slice none 0 0] 30)).alloc (.cells #[.int .i64 0] 3)).alloc (.cells #[.bool false] 4)).heap[w.heap.size + 1 + 1 + 1 + 1 + 1]? = some (.cells #[.bool false] 4 (0, 0)) := by
      have h := blk_new (((((w.alloc (.cells #[.int .u64 0] 23)).alloc (.cells #[.int .u64 0] 23)).alloc (.cells #[.int .i64 0, .int .i64 0, .int .i64 0, .slice none 0 0] 29)).alloc (.cells #[.slice none 0 0] 30)).alloc (.cells #[.int .i64 0] 3)) (.cells #[.bool false] 4)
      try simp only [World.size_alloc] at h
      exact h
    exact ⟨h0, h1, h2, h3, h4, h5⟩
  have hf0 : Fr [] w ((((((w.alloc (.cells #[.int .u64 0] 23)).alloc (.cells #[.int .u64 0] 23)).alloc (.cells #[.int .i64 0, .int .i64 0, .int .i64 0, .slice none 0 0] 29)).alloc (.cells #[.slice none 0 0] 30)).alloc (.cells #[.int .i64 0] 3)).alloc (.cells #[.bool false] 4)) := ((((((Fr.refl _ _).alloc _).alloc _).alloc _).alloc _).alloc _).alloc _
  generalize hw0 : ((((((w.alloc (.cells #[.int .u64 0] 23)).alloc (.cells #[.int .u64 0] 23)).alloc (.cells #[.int .i64 0, .int .i64 0, .int .i64 0, .slice none 0 0] 29)).alloc (.cells #[.slice none 0 0] 30)).alloc (.cells #[.int .i64 0] 3)).alloc (.cells #[.bool false] 4)) = w0 at *
  have Hw0 := Lib.hid hw0
  have F0 := Lib.hid hf0
  have HZ0 := Lib.hid hz0
  clear hw0 hf0 hz0
  go_enter_defers Tryz.func10, Tryz.ntmps10
  go_wp2_with (go_at_call 24; go_must (rw [Hw0.out]; refine (Clone_any _ D _ (Hs.out.fr F0.out (by simp)) (by omega)).mono ?_))
  rintro e w1 ⟨a1, c1, rfl, ho1, hf1⟩
  have Ho1 := Lib.hid ho1
  have F1 := Lib.hid hf1
  clear ho1 hf1
  go_wp2_with (go_at_call 23; go_must (refine (Parse_any a1 c1 D (itemsFrom 0 l) _ HI.out (own_sl Ho1.out) (fun g hg => (Ho1.out.lt g hg).2)).mono ?_))
  rintro e w2 ⟨ae, ce, ptrs, rfl, ho2, hl2, hfd2, hf2⟩
  rw [HFE.out] at hl2 hfd2
  have F2 : Hid (Fr [] w0 w2) := F1.out.then hf2
  have Ho2 := Lib.hid ho2
  have Hl2 := Lib.hid hl2
  have Hfd2 := Lib.hid hfd2
  have HD2 : Hid (∀ g, (Value.slice a1 D.length c1).ownBlock = some g → ∃ cur, w2.heap[g]? = some (.cells cur 5 (0, 0))) := fun g hg => by
    obtain ⟨cur, hc⟩ := own_cells Ho1.out hg; exact ⟨cur, hf2.get hc (by simp)⟩
  have hcap : ptrs.length ≤ 1000 := by rw [hl2, ← HFE.out]; exact HI.out.hn
  have Hcap := Lib.hid hcap
  clear ho2 hl2 hfd2 hf2
  obtain ⟨p0, hp0⟩ : ∃ p0, w.heap.size = p0 := ⟨_, rfl⟩
  obtain ⟨p1, hp1⟩ : ∃ p1, p0 + 1 = p1 := ⟨_, rfl⟩
  obtain ⟨p2, hp2⟩ : ∃ p2, p1 + 1 = p2 := ⟨_, rfl⟩
  obtain ⟨p3, hp3⟩ : ∃ p3, p2 + 1 = p3 := ⟨_, rfl⟩
  obtain ⟨p4, hp4⟩ : ∃ p4, p3 + 1 = p4 := ⟨_, rfl⟩
  obtain ⟨p5, hp5⟩ : ∃ p5, p4 + 1 = p5 := ⟨_, rfl⟩
  rw [hp0, hp1, hp2, hp3, hp4, hp5] at HZ0
  simp only [hp0, hp1, hp2, hp3, hp4, hp5]
  have HPP : Hid (w.heap.size ≤ p0 ∧ w.heap.size ≤ p1 ∧ w.heap.size ≤ p2 ∧ w.heap.size ≤ p3 ∧ w.heap.size ≤ p4 ∧ w.heap.size ≤ p5) := by show _ ∧ _; omega
  have H01 : Hid (p0 ≠ p1) := by show _ ≠ _; omega
  clear hp0 hp1 hp2 hp3 hp4 hp5
  go_upto_region 5 with fail
  have hX : (prs l).length = ptrs.length := Hl2.out.symm
  have hbX : ∀ p ∈ prs l, ¬ p.2.size = 0 ∧ p.2.start ≤ 1099511627776 ∧ p.2.size ≤ 1048576 := by
    rintro ⟨c, f⟩ hpm
    obtain ⟨h1, h2⟩ := prs_mem.1 hpm
    have := fr_facts ((rc_facts (HR.out c h1)).2.2.2.2.2.2.2.2.2.2 f h2)
    exact ⟨this.1, this.2.2.1, this.2.1⟩
  have HBX := Lib.hid hbX
  have HFD : Hid (Calls Tryz.prog 25 #[.slice ae ptrs.length ce, .int .u64 (pc : Int)] w2 (FOut w2 ((prs l).map (·.2)) ptrs pc)) :=
    FDEForPC_any w2 (.slice a1 D.length c1) pc ae ptrs.length ce ptrs (prs l) (own_sl Ho2.out) rfl hX (by omega) Hfd2.out hbX (prs_apart HA.out) hp
  clear hX hbX hcap
  go_upto_region 6 with (go_at_call 25; go_must (refine HFD.out.mono ?_))
  rintro e w3 ⟨hf3, hcase⟩
  have F3 := Lib.hid (F2.out.then hf3)
  have F23 := Lib.hid hf3
  clear hf3
  rcases hcase with ⟨k, x, fd, hk, hpk, hin, rfl⟩ | ⟨hno, ty, u, rfl⟩
  · obtain ⟨c, hkc⟩ : ∃ c, (prs l)[k]? = some (c, x) := by
      rw [List.getElem?_map] at hk
      obtain ⟨⟨c, y⟩, h1, h2⟩ := Option.map_eq_some_iff.1 hk
      exact ⟨c, by rw [h1]; simp only at h2; rw [h2]⟩
    have hfd3 : FdeAt w3 (.slice a1 D.length c1) fd ordLE c x := (Hfd2.out k fd c x hpk hkc).idle F23.out
    have HFD3 := Lib.hid hfd3
    have HKC := Lib.hid hkc
    have HIN := Lib.hid hin
    obtain ⟨hc1, hc2⟩ := prs_mem.1 (List.mem_of_getElem? hkc)
    have hfr := (rc_facts (HR.out c hc1)).2.2.2.2.2.2.2.2.2.2 x hc2
    have hpc2 : pc ≤ 4398046511104 := by
      have h1 := fr_facts hfr
      have h2 := hin
      simp only [inF, decide_eq_true_eq] at h2
      omega
    have HRC := Lib.hid (HR.out c hc1)
    have HFRB := Lib.hid hfr
    have HES : Hid (Calls Tryz.prog 26 #[.pointer (some ⟨fd, 0, none⟩), .int .u64 (pc : Int)] w3 (EOut w3 c x pc)) :=
      Establish_any w3 (.slice a1 D.length c1) fd pc c x hfd3 (fun g hg => by obtain ⟨cur, h⟩ := HD2.out g hg; exact Nat.lt_of_lt_of_le (lt_heap h) F23.out.size) (HR.out c hc1) hfr (HJ.out c hc1).1 ((HJ.out c hc1).2 x hc2) hpc2
    clear hk hpk hin hkc hfd3 hc1 hc2 hfr hpc2
    unfold EOut at HES
    cases ho : iRules c x pc with
    | none =>
      rw [ho] at HES
      have HO := Lib.hid ho
      clear ho
      go_upto_region 9 with (go_at_call 26; go_must (refine HES.out.mono ?_))
      rintro e w4 ⟨⟨ty, u, rfl⟩, hf4⟩
      have hz4 : ZB w4 p0 p1 p2 p3 p4 p5 := HZ0.out.fr (F3.out.then hf4)
      show Leaves Tryz.prog _ _ _ _ (.panicking _) w4
      refine leaves_cons (f := 22) (args := #[.pointer (some ⟨p0, 0, none⟩), .pointer (some ⟨p1, 0, none⟩), .pointer (some ⟨p2, 0, none⟩), .pointer (some ⟨p3, 0, none⟩), .pointer (some ⟨p4, 0, none⟩), .pointer (some ⟨p5, 0, none⟩)]) (by simp) (by simp [go_sem]) ?_
      refine (iFrame1_panicking p0 p1 p2 p3 p4 p5 ty u w4 hz4).mono ?_
      rintro e u' w'' ⟨rfl, rfl, rfl⟩
      simp only [Leaves, settle, List.dropWhile]
      have hz := hz4
      have k00 : w''.cell? ⟨p0, 0, none⟩ = some (.int .u64 0) := blk_cell hz.b0 0
      have z00 : w''.frozen? ⟨p0, 0, none⟩ = false := blk_free hz.b0 0
      have s00 : w''.setCell ⟨p0, 0, none⟩ (.int .u64 0) = w'' := setCell_same' hz.b0 rfl
      have k10 : w''.cell? ⟨p1, 0, none⟩ = some (.int .u64 0) := blk_cell hz.b1 0
      have z10 : w''.frozen? ⟨p1, 0, none⟩ = false := blk_free hz.b1 0
      have s10 : w''.setCell ⟨p1, 0, none⟩ (.int .u64 0) = w'' := setCell_same' hz.b1 rfl
      have k20 : w''.cell? ⟨p2, 0, none⟩ = some (.int .i64 0) := blk_cell hz.b2 0
      have z20 : w''.frozen? ⟨p2, 0, none⟩ = false := blk_free hz.b2 0
      have s20 : w''.setCell ⟨p2, 0, none⟩ (.int .i64 0) = w'' := setCell_same' hz.b2 rfl
      have k21 : w''.cell? ⟨p2, 1, none⟩ = some (.int .i64 0) := blk_cell hz.b2 1
      have z21 : w''.frozen? ⟨p2, 1, none⟩ = false := blk_free hz.b2 1
      have s21 : w''.setCell ⟨p2, 1, none⟩ (.int .i64 0) = w'' := setCell_same' hz.b2 rfl
      have k22 : w''.cell? ⟨p2, 2, none⟩ = some (.int .i64 0) := blk_cell hz.b2 2
      have z22 : w''.frozen? ⟨p2, 2, none⟩ = false := blk_free hz.b2 2
      have s22 : w''.setCell ⟨p2, 2, none⟩ (.int .i64 0) = w'' := setCell_same' hz.b2 rfl
      have k23 : w''.cell? ⟨p2, 3, none⟩ = some (.slice none 0 0) := blk_cell hz.b2 3
      have z23 : w''.frozen? ⟨p2, 3, none⟩ = false := blk_free hz.b2 3
      have s23 : w''.setCell ⟨p2, 3, none⟩ (.slice none 0 0) = w'' := setCell_same' hz.b2 rfl
      have k30 : w''.cell? ⟨p3, 0, none⟩ = some (.slice none 0 0) := blk_cell hz.b3 0
      have z30 : w''.frozen? ⟨p3, 0, none⟩ = false := blk_free hz.b3 0
      have s30 : w''.setCell ⟨p3, 0, none⟩ (.slice none 0 0) = w'' := setCell_same' hz.b3 rfl
      have k40 : w''.cell? ⟨p4, 0, none⟩ = some (.int .i64 0) := blk_cell hz.b4 0
      have z40 : w''.frozen? ⟨p4, 0, none⟩ = false := blk_free hz.b4 0
      have s40 : w''.setCell ⟨p4, 0, none⟩ (.int .i64 0) = w'' := setCell_same' hz.b4 rfl
      have k50 : w''.cell? ⟨p5, 0, none⟩ = some (.bool false) := blk_cell hz.b5 0
      have z50 : w''.frozen? ⟨p5, 0, none⟩ = false := blk_free hz.b5 0
      have s50 : w''.setCell ⟨p5, 0, none⟩ (.bool false) = w'' := setCell_same' hz.b5 rfl
      clear hz
      exact ⟨zeroI, by simp [results, Tryz.results10, go_sem, zeroI, k00, k10, k20, k21, k22, k23, k30, k40, k50], F0.out.then (F3.out.then hf4), .inr ⟨k, c, x, HKC.out, HIN.out, by rw [HO.out]; rfl⟩⟩
    | some t =>
      rw [ho] at HES
      have HO := Lib.hid ho
      clear ho
      go_upto_region 9 with (go_at_call 26; go_must (refine HES.out.mono ?_); rintro e w4 ⟨fb, K, mb, ev, sv, qs, v, l', loc, off, rd, s, rfl, hst, hret, hfx⟩; have HST := Lib.hid hst; have HRET := Lib.hid hret; have HFX := Lib.hid hfx; clear hst hret hfx)
      go_upto_region 11 with fail
      have hst := HST.out
      have f4 : Fr [] w3 w4 := HFX.out.fr
      refine Frame_T11 w w4 (.slice a1 D.length c1) fd fb mb K.ib K.ord K loc ev v c x t p0 p1 p2 p3 p4 p5 ⟨HZ0.out.fr (F3.out.then f4), by rw [← hst]; exact HFX.out.fc, by rw [← hst]; exact HFX.out.fo.mp, by rw [← hst]; exact HFX.out.fo.ex, fun g hg => own_cells HFX.out.fo.ow hg, HFD3.out.idle f4, fun g hg => by obtain ⟨cur, h⟩ := HD2.out g hg; exact ⟨cur, (F23.out.then f4).get h (by simp)⟩, HRET.out, ?_, HRC.out, HFRB.out⟩ (F0.out.then (F3.out.then f4)) HPP.out H01.out _ ?_ trivial _ (by assumption) _ _ _ _ _ _ _ _ _ _ _ _ _ _ _ _ _ _ _ _ _ _ _ _ _ _ _ _ _ _ _ _ _ _ _ _ _ _ _ _ _ _ _ _ _ _ _ _ _ _ _ _ _ _ _ _ _ _ _ _ _ _ _ _ _ _ _ _ _ _ _ _ _ _ _ _ _ _ _ _ _ _ _ _ _ _ _ _ _ _
      · exact iRules_ok (fun y hy => ccB_crB ((rc_facts HRC.out).2.2.2.2.2.2.2.2.2.1 y hy)) (fun y hy => cfB_crB ((fr_facts HFRB.out).2.2.2.2 y hy)) HO.out
      · intro e w' h1 h2
        exact ⟨h2, .inr ⟨k, c, x, HKC.out, HIN.out, by rw [HO.out]; exact h1⟩⟩
  · have HNO := Lib.hid hno
    clear hno
    have hz := HZ0.out.fr F3.out
    have k00 : w3.cell? ⟨p0, 0, none⟩ = some (.int .u64 0) := blk_cell hz.b0 0
    have z00 : w3.frozen? ⟨p0, 0, none⟩ = false := blk_free hz.b0 0
    have s00 : w3.setCell ⟨p0, 0, none⟩ (.int .u64 0) = w3 := setCell_same' hz.b0 rfl
    have k10 : w3.cell? ⟨p1, 0, none⟩ = some (.int .u64 0) := blk_cell hz.b1 0
    have z10 : w3.frozen? ⟨p1, 0, none⟩ = false := blk_free hz.b1 0
    have s10 : w3.setCell ⟨p1, 0, none⟩ (.int .u64 0) = w3 := setCell_same' hz.b1 rfl
    have k20 : w3.cell? ⟨p2, 0, none⟩ = some (.int .i64 0) := blk_cell hz.b2 0
    have z20 : w3.frozen? ⟨p2, 0, none⟩ = false := blk_free hz.b2 0
    have s20 : w3.setCell ⟨p2, 0, none⟩ (.int .i64 0) = w3 := setCell_same' hz.b2 rfl
    have k21 : w3.cell? ⟨p2, 1, none⟩ = some (.int .i64 0) := blk_cell hz.b2 1
    have z21 : w3.frozen? ⟨p2, 1, none⟩ = false := blk_free hz.b2 1
    have s21 : w3.setCell ⟨p2, 1, none⟩ (.int .i64 0) = w3 := setCell_same' hz.b2 rfl
    have k22 : w3.cell? ⟨p2, 2, none⟩ = some (.int .i64 0) := blk_cell hz.b2 2
    have z22 : w3.frozen? ⟨p2, 2, none⟩ = false := blk_free hz.b2 2
    have s22 : w3.setCell ⟨p2, 2, none⟩ (.int .i64 0) = w3 := setCell_same' hz.b2 rfl
    have k23 : w3.cell? ⟨p2, 3, none⟩ = some (.slice none 0 0) := blk_cell hz.b2 3
    have z23 : w3.frozen? ⟨p2, 3, none⟩ = false := blk_free hz.b2 3
    have s23 : w3.setCell ⟨p2, 3, none⟩ (.slice none 0 0) = w3 := setCell_same' hz.b2 rfl
    have k30 : w3.cell? ⟨p3, 0, none⟩ = some (.slice none 0 0) := blk_cell hz.b3 0
    have z30 : w3.frozen? ⟨p3, 0, none⟩ = false := blk_free hz.b3 0
    have s30 : w3.setCell ⟨p3, 0, none⟩ (.slice none 0 0) = w3 := setCell_same' hz.b3 rfl
    have k40 : w3.cell? ⟨p4, 0, none⟩ = some (.int .i64 0) := blk_cell hz.b4 0
    have z40 : w3.frozen? ⟨p4, 0, none⟩ = false := blk_free hz.b4 0
    have s40 : w3.setCell ⟨p4, 0, none⟩ (.int .i64 0) = w3 := setCell_same' hz.b4 rfl
    have k50 : w3.cell? ⟨p5, 0, none⟩ = some (.bool false) := blk_cell hz.b5 0
    have z50 : w3.frozen? ⟨p5, 0, none⟩ = false := blk_free hz.b5 0
    have s50 : w3.setCell ⟨p5, 0, none⟩ (.bool false) = w3 := setCell_same' hz.b5 rfl
    clear hz
    have hnq : (BinOp.neq : BinOp) = .neq := rfl
    go_wp2_with fail
    refine leaves_cons (f := 22) (args := #[.pointer (some ⟨p0, 0, none⟩), .pointer (some ⟨p1, 0, none⟩), .pointer (some ⟨p2, 0, none⟩), .pointer (some ⟨p3, 0, none⟩), .pointer (some ⟨p4, 0, none⟩), .pointer (some ⟨p5, 0, none⟩)]) (by simp) (by simp [go_sem]) ?_
    refine (iFrame1_idle p0 p1 p2 p3 p4 p5 _).mono ?_
    rintro e u' w'' ⟨rfl, rfl, rfl⟩
    refine ⟨zeroI, by simp [results, Tryz.results10, go_sem, zeroI, k00, k10, k20, k21, k22, k23, k30, k40, k50], F0.out.then F3.out, .inl ⟨fun p hp => ?_, rfl⟩⟩
    exact HNO.out p.2 (List.mem_map.2 ⟨p, hp, rfl⟩)
end Go.Proofs.YtahohmdfllgedaaGreat

namespace Go.Proofs.YtahohmdfllgedaaGreat
open Go.RowKit

def SRul (W : World) (r : LRule) (v : Value) : Prop := ∃ ev, v = .agg #[.int .i64 r.kind, .int .i64 r.reg, .int .i64 r.n, ev] ∧ Sl W ev (vbs r.expr)
/-- Block mb is a map that holds the rules m; their bytes lie in the world W. -/
def SMapR (W w : World) (mb : Nat) (m : LMap) : Prop := ∃ f, MapIs w mb .i64 f ∧ ∀ k, (m k = none ∧ f k = none) ∨ ∃ r v, m k = some r ∧ f k = some v ∧ SRul W r v
def stab (t : LTab) (ev : Value) (mb : Nat) : List Value := [.int .i64 t.cfa.kind, .int .i64 t.cfa.reg, .int .i64 t.cfa.n, ev, .map (some mb)]
def stabs (qs : List SQ) : List Value := qs.flatMap fun q => stab q.1 q.2.1 q.2.2
theorem stabs_len (qs : List SQ) : (stabs qs).length = qs.length * 5 := by
  induction qs with
  | nil => rfl
  | cons q qs ih => rw [show stabs (q :: qs) = stab q.1 q.2.1 q.2.2 ++ stabs qs by simp [stabs], List.length_append, ih]; simp [stab]; omega
theorem stabs_app (a b : List SQ) : stabs (a ++ b) = stabs a ++ stabs b := by simp [stabs]

/-- The reference's state: the table's block, the map's, the box of the tables kept. -/
structure TS (W w : World) (tb mb : Nat) (ev : Value) (kb : Nat) (kv : Value) (qs : List SQ) (s : LSta) : Prop where
  fr : Fr [] W w
  ht : w.heap[tb]? = some (.cells (stab s.1 ev mb).toArray 42 (0, 0))
  gt : W.heap.size ≤ tb
  cf : Sl W ev (vbs s.1.cfa.expr)
  mp : SMapR W w mb s.1.rules
  gm : W.heap.size ≤ mb
  hk : w.heap[kb]? = some (.cells #[kv] 91 (0, 0))
  gk : W.heap.size ≤ kb
  kr : w.ownsRow W.heap.size 42 5 kv qs.length (stabs qs)
  kn : kv.ownBlock ≠ some tb
  sq : ∀ q ∈ qs, Sl W q.2.1 (vbs q.1.cfa.expr) ∧ SMapR W w q.2.2 q.1.rules
  gq : ∀ q ∈ qs, W.heap.size ≤ q.2.2
  sk : qs.map (·.1) = s.2
  nd : (mb :: qs.map (·.2.2)).Nodup

section
variable {W w w' : World} {tb mb kb : Nat} {ev kv : Value} {qs : List SQ} {s : LSta}
theorem SMapR.fr {m : LMap} {bs : List Nat} (h : SMapR W w mb m) (f : Fr bs w w') (hb : mb ∉ bs) : SMapR W w' mb m := by
  obtain ⟨g, h1, h2⟩ := h; exact ⟨g, h1.fr f hb, h2⟩
theorem SMapR.ne {m : LMap} (h : SMapR W w mb m) {b : Nat} {c : Array Value} {t : TypeId} {z : Nat × Nat} (hb : w.heap[b]? = some (.cells c t z)) : b ≠ mb := by
  obtain ⟨g, h1, _⟩ := h; exact cmap_ne hb h1
theorem TS.idle (h : TS W w tb mb ev kb kv qs s) (f : Fr [] w w') : TS W w' tb mb ev kb kv qs s :=
  ⟨h.fr.then f, f.get h.ht (by simp), h.gt, h.cf, h.mp.fr f (by simp), h.gm, f.get h.hk (by simp), h.gk, own_fr h.kr f (by simp), h.kn, fun q hq => ⟨(h.sq q hq).1, (h.sq q hq).2.fr f (by simp)⟩, h.gq, h.sk, h.nd⟩
theorem SRul.mk (W : World) (k n r : Int) : SRul W ⟨k, r, n, []⟩ (.agg #[.int .i64 k, .int .i64 r, .int .i64 n, .slice none 0 0]) := ⟨_, rfl, .inl ⟨rfl, rfl⟩⟩
theorem TS.cell (h : TS W w tb mb ev kb kv qs s) (i : Nat) : w.cell? ⟨tb, i, none⟩ = (stab s.1 ev mb).toArray[i]? := blk_cell h.ht i
theorem TS.free (h : TS W w tb mb ev kb kv qs s) (i : Nat) : w.frozen? ⟨tb, i, none⟩ = false := blk_free h.ht i
/-- A rule is laid into the map. -/
theorem TS.upd (h : TS W w tb mb ev kb kv qs s) {wd : World} (hd : Fr [] w wd) (k : Int) (r : LRule) (u : Value) (hr : SRul W r u) :
    ∃ w', (Instr.mapUpdate 40 (.map (some mb)) (.int .i64 k) u).run Tryz.prog wd = .ok () w' ∧ TS W w' tb mb ev kb kv qs (s.1.put k r, s.2) ∧ Fr [mb] wd w' := by
  obtain ⟨f, hm, hk⟩ := h.mp
  obtain ⟨w', hrun, hm', hf'⟩ := MapIs.update (P := Tryz.prog) (hm.fr hd (by simp)) Tryz.underlying40 Tryz.underlying3 k u
  have hx := h.idle hd
  have hn : ∀ {b c t z}, wd.heap[b]? = some (.cells c t z) → b ∉ [mb] := fun {b c t z} hb => by simpa using hx.mp.ne hb
  refine ⟨w', hrun, ⟨hx.fr.trans hf' (fun i hi hlt => by simp at hi; subst hi; have := h.gm; omega), hf'.get hx.ht (hn hx.ht), h.gt, h.cf, ⟨_, hm', fun j => ?_⟩, h.gm, hf'.get hx.hk (hn hx.hk), h.gk, own_fr hx.kr hf' (fun g hg => ?_), h.kn, fun q hq => ⟨(hx.sq q hq).1, (hx.sq q hq).2.fr hf' ?_⟩, h.gq, h.sk, h.nd⟩, hf'⟩
  · show (lput s.1.rules k r j = none ∧ Go.Proofs.YtahohmdfllgedaaGreat.upd f k u j = none) ∨ ∃ r' v, lput s.1.rules k r j = some r' ∧ Go.Proofs.YtahohmdfllgedaaGreat.upd f k u j = some v ∧ SRul W r' v
    unfold lput Go.Proofs.YtahohmdfllgedaaGreat.upd
    by_cases hj : j = k
    · rw [if_pos hj, if_pos hj]; exact .inr ⟨r, u, rfl, rfl, hr⟩
    · rw [if_neg hj, if_neg hj]; exact hk j
  · obtain ⟨cur, hc⟩ := own_cells hx.kr hg
    exact hn hc
  · have := h.nd
    simp only [List.nodup_cons] at this
    intro hm2
    simp at hm2
    exact this.1 (hm2 ▸ List.mem_map_of_mem hq)
/-- A cell of the frame address' rule turns. -/
theorem TS.setCfa (h : TS W w tb mb ev kb kv qs s) (i : Nat) (u : Value) {c : LRule} {ev' : Value} (he : (stab s.1 ev mb).toArray.setIfInBounds i u = (stab (s.1.setCfa c) ev' mb).toArray) (hx : Sl W ev' (vbs c.expr)) :
    TS W (w.setCell ⟨tb, i, none⟩ u) tb mb ev' kb kv qs (s.1.setCfa c, s.2) := by
  have hf : Fr [tb] w (w.setCell ⟨tb, i, none⟩ u) := (Fr.refl _ _).setCell (.inl (by simp)) _
  have hk : kb ≠ tb := cells_ne h.hk h.ht (by decide)
  refine ⟨h.fr.setCell (.inr h.gt) _, by rw [← he]; exact blk_set h.ht i u, h.gt, hx, h.mp.fr hf (by simpa using (h.mp.ne h.ht).symm), h.gm, hf.get h.hk (by simpa using hk), h.gk, own_fr h.kr hf (fun g hg hm => by simp at hm; subst hm; exact h.kn hg), h.kn, fun q hq => ⟨(h.sq q hq).1, (h.sq q hq).2.fr hf (by simpa using ((h.sq q hq).2.ne h.ht).symm)⟩, h.gq, h.sk, h.nd⟩
end

def TOut (W : World) (tb kb : Nat) (o : Option LSta) (w : World) (e : Ending) (w' : World) : Prop :=
  match o with
  | none => e = .returned (.bool false) ∧ Fr [] W w'
  | some s => e = .returned (.bool true) ∧ ∃ mb ev kv qs, TS W w' tb mb ev kb kv qs s
end Go.Proofs.YtahohmdfllgedaaGreat

namespace Go.Proofs.YtahohmdfllgedaaGreat
open Go.RowKit

def commonV (c : LCommon) (cv fv : Value) : Value := .agg #[.int .i64 c.version, .int .u64 (c.code : Int), .int .i64 c.offset, .int .i64 c.ret, cv, fv]
def callV (op a b : Int) (dv : Value) : Value := .agg #[.int .i64 op, .int .i64 a, .int .i64 b, dv]
/-- The boxes of the two arguments. -/
structure TX (w : World) (g : Nat) (c : LCommon) (op a b : Int) (dv : Value) : Prop where
  o2 : w.cell? ⟨g, 2, none⟩ = some (.int .i64 c.offset)
  x0 : w.cell? ⟨g + 1, 0, none⟩ = some (.int .i64 op)
  x1 : w.cell? ⟨g + 1, 1, none⟩ = some (.int .i64 a)
  x2 : w.cell? ⟨g + 1, 2, none⟩ = some (.int .i64 b)
  x3 : w.cell? ⟨g + 1, 3, none⟩ = some dv
theorem TX.fr {w w' : World} {g : Nat} {c : LCommon} {op a b : Int} {dv : Value} {bs : List Nat} (h : TX w g c op a b dv) (f : Fr bs w w') (h1 : g ∉ bs) (h2 : g + 1 ∉ bs) : TX w' g c op a b dv :=
  ⟨f.cell h.o2 h1, f.cell h.x0 h2, f.cell h.x1 h2, f.cell h.x2 h2, f.cell h.x3 h2⟩

set_option maxRecDepth 100000 in
set_option maxHeartbeats 4000000 in
theorem tc_0 {W w : World} {tb mb kb : Nat} {ev kv : Value} {qs : List SQ} {s : LSta} (h : TS W w tb mb ev kb kv qs s) (c : LCommon) (cv fv : Value) (a b : Int) (dt : List UInt8) (da : Option Addr) (dc dn : Nat)  :
    Calls Tryz.prog 31 #[.pointer (some ⟨tb, 0, none⟩), commonV c cv fv, callV 0 a b (.slice da dn dc), .pointer (some ⟨kb, 0, none⟩)] w (TOut W tb kb (some s) w) := by
  have H := Lib.hid h
  obtain ⟨w1, hw1⟩ : ∃ w1, (w.alloc (.cells #[.int .i64 c.version, .int .u64 (c.code : Int), .int .i64 c.offset, .int .i64 c.ret, cv, fv] 36)).alloc (.cells #[.int .i64 0, .int .i64 a, .int .i64 b, .slice da dn dc] 53) = w1 := ⟨_, rfl⟩
  have F1 : Hid (Fr [] w w1) := by rw [← hw1]; exact ((Fr.refl _ _).alloc _).alloc _
  have B0 : Hid (w1.heap[w.heap.size]? = some (.cells #[.int .i64 c.version, .int .u64 (c.code : Int), .int .i64 c.offset, .int .i64 c.ret, cv, fv] 36 (0, 0))) := by rw [← hw1]; exact blk_alloc (blk_new w _)
  have B1 : Hid (w1.heap[w.heap.size + 1]? = some (.cells #[.int .i64 0, .int .i64 a, .int .i64 b, .slice da dn dc] 53 (0, 0))) := by
    have h := blk_new (w.alloc (.cells #[.int .i64 c.version, .int .u64 (c.code : Int), .int .i64 c.offset, .int .i64 c.ret, cv, fv] 36)) (.cells #[.int .i64 0, .int .i64 a, .int .i64 b, .slice da dn dc] 53)
    rw [World.size_alloc, hw1] at h; exact h
  have H1 := Lib.hid (h.idle F1.out)
  have o2 : w1.cell? ⟨w.heap.size, 2, none⟩ = some (.int .i64 c.offset) := by rw [blk_cell B0.out]; rfl
  have x0 : w1.cell? ⟨w.heap.size + 1, 0, none⟩ = some (.int .i64 0) := by rw [blk_cell B1.out]; rfl
  have x1 : w1.cell? ⟨w.heap.size + 1, 1, none⟩ = some (.int .i64 a) := by rw [blk_cell B1.out]; rfl
  have x2 : w1.cell? ⟨w.heap.size + 1, 2, none⟩ = some (.int .i64 b) := by rw [blk_cell B1.out]; rfl
  have x3 : w1.cell? ⟨w.heap.size + 1, 3, none⟩ = some (.slice da dn dc) := by rw [blk_cell B1.out]; rfl
  have NE0 : Hid (w.heap.size ≠ mb) := H1.out.mp.ne B0.out
  have NE1 : Hid (w.heap.size + 1 ≠ mb) := H1.out.mp.ne B1.out
  have NE2 : Hid (tb ≠ mb) := H1.out.mp.ne H1.out.ht
  unfold commonV callV
  clear h
  go_enter Tryz.func31, Tryz.ntmps31
  go_upto_region 2 with fail
  clear hw1
  have HZ := Lib.hid H1.out
  go_wp2_with fail
  go_ret
  exact ⟨rfl, mb, ev, kv, qs, HZ.out⟩

set_option maxRecDepth 100000 in
set_option maxHeartbeats 4000000 in
theorem tc_128 {W w : World} {tb mb kb : Nat} {ev kv : Value} {qs : List SQ} {s : LSta} (h : TS W w tb mb ev kb kv qs s) (c : LCommon) (cv fv : Value) (a b : Int) (dt : List UInt8) (da : Option Addr) (dc dn : Nat) (hw : IntKind.i64.wrap (b * c.offset) = b * c.offset) :
    Calls Tryz.prog 31 #[.pointer (some ⟨tb, 0, none⟩), commonV c cv fv, callV 128 a b (.slice da dn dc), .pointer (some ⟨kb, 0, none⟩)] w (TOut W tb kb (some (s.1.put a ⟨2, 0, b * c.offset, []⟩, s.2)) w) := by
  have H := Lib.hid h
  obtain ⟨w1, hw1⟩ : ∃ w1, (w.alloc (.cells #[.int .i64 c.version, .int .u64 (c.code : Int), .int .i64 c.offset, .int .i64 c.ret, cv, fv] 36)).alloc (.cells #[.int .i64 128, .int .i64 a, .int .i64 b, .slice da dn dc] 53) = w1 := ⟨_, rfl⟩
  have F1 : Hid (Fr [] w w1) := by rw [← hw1]; exact ((Fr.refl _ _).alloc _).alloc _
  have B0 : Hid (w1.heap[w.heap.size]? = some (.cells #[.int .i64 c.version, .int .u64 (c.code : Int), .int .i64 c.offset, .int .i64 c.ret, cv, fv] 36 (0, 0))) := by rw [← hw1]; exact blk_alloc (blk_new w _)
  have B1 : Hid (w1.heap[w.heap.size + 1]? = some (.cells #[.int .i64 128, .int .i64 a, .int .i64 b, .slice da dn dc] 53 (0, 0))) := by
    have h := blk_new (w.alloc (.cells #[.int .i64 c.version, .int .u64 (c.code : Int), .int .i64 c.offset, .int .i64 c.ret, cv, fv] 36)) (.cells #[.int .i64 128, .int .i64 a, .int .i64 b, .slice da dn dc] 53)
    rw [World.size_alloc, hw1] at h; exact h
  have H1 := Lib.hid (h.idle F1.out)
  have o2 : w1.cell? ⟨w.heap.size, 2, none⟩ = some (.int .i64 c.offset) := by rw [blk_cell B0.out]; rfl
  have x0 : w1.cell? ⟨w.heap.size + 1, 0, none⟩ = some (.int .i64 128) := by rw [blk_cell B1.out]; rfl
  have x1 : w1.cell? ⟨w.heap.size + 1, 1, none⟩ = some (.int .i64 a) := by rw [blk_cell B1.out]; rfl
  have x2 : w1.cell? ⟨w.heap.size + 1, 2, none⟩ = some (.int .i64 b) := by rw [blk_cell B1.out]; rfl
  have x3 : w1.cell? ⟨w.heap.size + 1, 3, none⟩ = some (.slice da dn dc) := by rw [blk_cell B1.out]; rfl
  have e1 : IntKind.i64.wrap (b * c.offset) = b * c.offset := hw
  have NE0 : Hid (w.heap.size ≠ mb) := H1.out.mp.ne B0.out
  have NE1 : Hid (w.heap.size + 1 ≠ mb) := H1.out.mp.ne B1.out
  have NE2 : Hid (tb ≠ mb) := H1.out.mp.ne H1.out.ht
  unfold commonV callV
  clear h
  go_enter Tryz.func31, Tryz.ntmps31
  go_upto_region 2 with fail
  clear hw1
  have m1 : w1.cell? ⟨tb, 4, none⟩ = some (.map (some mb)) := H1.out.cell 4
  obtain ⟨p, hpe⟩ : ∃ p, b * c.offset = p := ⟨_, rfl⟩
  rw [hpe] at e1
  have HPE := Lib.hid hpe
  obtain ⟨wz, hrun, hz, hfz⟩ := H1.out.upd ((Fr.refl [] w1).drew) a ⟨2, 0, p, []⟩ (.agg #[.int .i64 2, .int .i64 0, .int .i64 p, .slice none 0 0]) (SRul.mk W 2 p 0)
  have HZ := Lib.hid hz
  have e2 : IntKind.i64.wrap (b * c.offset) = p := by rw [hpe]; exact e1
  clear hpe e1 hw
  have HFZ : Hid (Fr [mb] w1 wz) := ((Fr.refl [mb] w1).drew).trans hfz (fun i h _ => h)
  clear hz hfz
  go_wp2_with fail
  go_region_held3 (fun w' => w'.cell? ⟨tb, 4, none⟩ = some (.map (some mb)) ∧ w'.cell? ⟨w.heap.size + 1, 2, none⟩ = some (.int .i64 b) ∧ w'.cell? ⟨w.heap.size, 2, none⟩ = some (.int .i64 c.offset))
    (first | exact ⟨m1, x2, o2⟩ | exact ⟨HFZ.out.cell m1 (by simpa using NE2.out), HFZ.out.cell x2 (by simpa using NE1.out), HFZ.out.cell o2 (by simpa using NE0.out)⟩)
    (fail)
  all_goals
    go_wp2_with fail
    go_ret
    exact ⟨rfl, mb, ev, kv, qs, by rw [HPE.out]; exact HZ.out⟩

set_option maxRecDepth 100000 in
set_option maxHeartbeats 4000000 in
theorem tc_5 {W w : World} {tb mb kb : Nat} {ev kv : Value} {qs : List SQ} {s : LSta} (h : TS W w tb mb ev kb kv qs s) (c : LCommon) (cv fv : Value) (a b : Int) (dt : List UInt8) (da : Option Addr) (dc dn : Nat) (hw : IntKind.i64.wrap (b * c.offset) = b * c.offset) :
    Calls Tryz.prog 31 #[.pointer (some ⟨tb, 0, none⟩), commonV c cv fv, callV 5 a b (.slice da dn dc), .pointer (some ⟨kb, 0, none⟩)] w (TOut W tb kb (some (s.1.put a ⟨2, 0, b * c.offset, []⟩, s.2)) w) := by
  have H := Lib.hid h
  obtain ⟨w1, hw1⟩ : ∃ w1, (w.alloc (.cells #[.int .i64 c.version, .int .u64 (c.code : Int), .int .i64 c.offset, .int .i64 c.ret, cv, fv] 36)).alloc (.cells #[.int .i64 5, .int .i64 a, .int .i64 b, .slice da dn dc] 53) = w1 := ⟨_, rfl⟩
  have F1 : Hid (Fr [] w w1) := by rw [← hw1]; exact ((Fr.refl _ _).alloc _).alloc _
  have B0 : Hid (w1.heap[w.heap.size]? = some (.cells #[.int .i64 c.version, .int .u64 (c.code : Int), .int .i64 c.offset, .int .i64 c.ret, cv, fv] 36 (0, 0))) := by rw [← hw1]; exact blk_alloc (blk_new w _)
  have B1 : Hid (w1.heap[w.heap.size + 1]? = some (.cells #[.int .i64 5, .int .i64 a, .int .i64 b, .slice da dn dc] 53 (0, 0))) := by
    have h := blk_new (w.alloc (.cells #[.int .i64 c.version, .int .u64 (c.code : Int), .int .i64 c.offset, .int .i64 c.ret, cv, fv] 36)) (.cells #[.int .i64 5, .int .i64 a, .int .i64 b, .slice da dn dc] 53)
    rw [World.size_alloc, hw1] at h; exact h
  have H1 := Lib.hid (h.idle F1.out)
  have o2 : w1.cell? ⟨w.heap.size, 2, none⟩ = some (.int .i64 c.offset) := by rw [blk_cell B0.out]; rfl
  have x0 : w1.cell? ⟨w.heap.size + 1, 0, none⟩ = some (.int .i64 5) := by rw [blk_cell B1.out]; rfl
  have x1 : w1.cell? ⟨w.heap.size + 1, 1, none⟩ = some (.int .i64 a) := by rw [blk_cell B1.out]; rfl
  have x2 : w1.cell? ⟨w.heap.size + 1, 2, none⟩ = some (.int .i64 b) := by rw [blk_cell B1.out]; rfl
  have x3 : w1.cell? ⟨w.heap.size + 1, 3, none⟩ = some (.slice da dn dc) := by rw [blk_cell B1.out]; rfl
  have e1 : IntKind.i64.wrap (b * c.offset) = b * c.offset := hw
  have NE0 : Hid (w.heap.size ≠ mb) := H1.out.mp.ne B0.out
  have NE1 : Hid (w.heap.size + 1 ≠ mb) := H1.out.mp.ne B1.out
  have NE2 : Hid (tb ≠ mb) := H1.out.mp.ne H1.out.ht
  unfold commonV callV
  clear h
  go_enter Tryz.func31, Tryz.ntmps31
  go_upto_region 2 with fail
  clear hw1
  have m1 : w1.cell? ⟨tb, 4, none⟩ = some (.map (some mb)) := H1.out.cell 4
  obtain ⟨p, hpe⟩ : ∃ p, b * c.offset = p := ⟨_, rfl⟩
  rw [hpe] at e1
  have HPE := Lib.hid hpe
  obtain ⟨wz, hrun, hz, hfz⟩ := H1.out.upd ((Fr.refl [] w1).drew) a ⟨2, 0, p, []⟩ (.agg #[.int .i64 2, .int .i64 0, .int .i64 p, .slice none 0 0]) (SRul.mk W 2 p 0)
  have HZ := Lib.hid hz
  have e2 : IntKind.i64.wrap (b * c.offset) = p := by rw [hpe]; exact e1
  clear hpe e1 hw
  have HFZ : Hid (Fr [mb] w1 wz) := ((Fr.refl [mb] w1).drew).trans hfz (fun i h _ => h)
  clear hz hfz
  go_wp2_with fail
  go_region_held3 (fun w' => w'.cell? ⟨tb, 4, none⟩ = some (.map (some mb)) ∧ w'.cell? ⟨w.heap.size + 1, 2, none⟩ = some (.int .i64 b) ∧ w'.cell? ⟨w.heap.size, 2, none⟩ = some (.int .i64 c.offset))
    (first | exact ⟨m1, x2, o2⟩ | exact ⟨HFZ.out.cell m1 (by simpa using NE2.out), HFZ.out.cell x2 (by simpa using NE1.out), HFZ.out.cell o2 (by simpa using NE0.out)⟩)
    (fail)
  all_goals
    go_wp2_with fail
    go_ret
    exact ⟨rfl, mb, ev, kv, qs, by rw [HPE.out]; exact HZ.out⟩

set_option maxRecDepth 100000 in
set_option maxHeartbeats 4000000 in
theorem tc_17 {W w : World} {tb mb kb : Nat} {ev kv : Value} {qs : List SQ} {s : LSta} (h : TS W w tb mb ev kb kv qs s) (c : LCommon) (cv fv : Value) (a b : Int) (dt : List UInt8) (da : Option Addr) (dc dn : Nat) (hw : IntKind.i64.wrap (b * c.offset) = b * c.offset) :
    Calls Tryz.prog 31 #[.pointer (some ⟨tb, 0, none⟩), commonV c cv fv, callV 17 a b (.slice da dn dc), .pointer (some ⟨kb, 0, none⟩)] w (TOut W tb kb (some (s.1.put a ⟨2, 0, b * c.offset, []⟩, s.2)) w) := by
  have H := Lib.hid h
  obtain ⟨w1, hw1⟩ : ∃ w1, (w.alloc (.cells #[.int .i64 c.version, .int .u64 (c.code : Int), .int .i64 c.offset, .int .i64 c.ret, cv, fv] 36)).alloc (.cells #[.int .i64 17, .int .i64 a, .int .i64 b, .slice da dn dc] 53) = w1 := ⟨_, rfl⟩
  have F1 : Hid (Fr [] w w1) := by rw [← hw1]; exact ((Fr.refl _ _).alloc _).alloc _
  have B0 : Hid (w1.heap[w.heap.size]? = some (.cells #[.int .i64 c.version, .int .u64 (c.code : Int), .int .i64 c.offset, .int .i64 c.ret, cv, fv] 36 (0, 0))) := by rw [← hw1]; exact blk_alloc (blk_new w _)
  have B1 : Hid (w1.heap[w.heap.size + 1]? = some (.cells #[.int .i64 17, .int .i64 a, .int .i64 b, .slice da dn dc] 53 (0, 0))) := by
    have h := blk_new (w.alloc (.cells #[.int .i64 c.version, .int .u64 (c.code : Int), .int .i64 c.offset, .int .i64 c.ret, cv, fv] 36)) (.cells #[.int .i64 17, .int .i64 a, .int .i64 b, .slice da dn dc] 53)
    rw [World.size_alloc, hw1] at h; exact h
  have H1 := Lib.hid (h.idle F1.out)
  have o2 : w1.cell? ⟨w.heap.size, 2, none⟩ = some (.int .i64 c.offset) := by rw [blk_cell B0.out]; rfl
  have x0 : w1.cell? ⟨w.heap.size + 1, 0, none⟩ = some (.int .i64 17) := by rw [blk_cell B1.out]; rfl
  have x1 : w1.cell? ⟨w.heap.size + 1, 1, none⟩ = some (.int .i64 a) := by rw [blk_cell B1.out]; rfl
  have x2 : w1.cell? ⟨w.heap.size + 1, 2, none⟩ = some (.int .i64 b) := by rw [blk_cell B1.out]; rfl
  have x3 : w1.cell? ⟨w.heap.size + 1, 3, none⟩ = some (.slice da dn dc) := by rw [blk_cell B1.out]; rfl
  have e1 : IntKind.i64.wrap (b * c.offset) = b * c.offset := hw
  have NE0 : Hid (w.heap.size ≠ mb) := H1.out.mp.ne B0.out
  have NE1 : Hid (w.heap.size + 1 ≠ mb) := H1.out.mp.ne B1.out
  have NE2 : Hid (tb ≠ mb) := H1.out.mp.ne H1.out.ht
  unfold commonV callV
  clear h
  go_enter Tryz.func31, Tryz.ntmps31
  go_upto_region 2 with fail
  clear hw1
  have m1 : w1.cell? ⟨tb, 4, none⟩ = some (.map (some mb)) := H1.out.cell 4
  obtain ⟨p, hpe⟩ : ∃ p, b * c.offset = p := ⟨_, rfl⟩
  rw [hpe] at e1
  have HPE := Lib.hid hpe
  obtain ⟨wz, hrun, hz, hfz⟩ := H1.out.upd ((Fr.refl [] w1).drew) a ⟨2, 0, p, []⟩ (.agg #[.int .i64 2, .int .i64 0, .int .i64 p, .slice none 0 0]) (SRul.mk W 2 p 0)
  have HZ := Lib.hid hz
  have e2 : IntKind.i64.wrap (b * c.offset) = p := by rw [hpe]; exact e1
  clear hpe e1 hw
  have HFZ : Hid (Fr [mb] w1 wz) := ((Fr.refl [mb] w1).drew).trans hfz (fun i h _ => h)
  clear hz hfz
  go_wp2_with fail
  go_region_held3 (fun w' => w'.cell? ⟨tb, 4, none⟩ = some (.map (some mb)) ∧ w'.cell? ⟨w.heap.size + 1, 2, none⟩ = some (.int .i64 b) ∧ w'.cell? ⟨w.heap.size, 2, none⟩ = some (.int .i64 c.offset))
    (first | exact ⟨m1, x2, o2⟩ | exact ⟨HFZ.out.cell m1 (by simpa using NE2.out), HFZ.out.cell x2 (by simpa using NE1.out), HFZ.out.cell o2 (by simpa using NE0.out)⟩)
    (fail)
  all_goals
    go_wp2_with fail
    go_ret
    exact ⟨rfl, mb, ev, kv, qs, by rw [HPE.out]; exact HZ.out⟩

set_option maxRecDepth 100000 in
set_option maxHeartbeats 4000000 in
theorem tc_20 {W w : World} {tb mb kb : Nat} {ev kv : Value} {qs : List SQ} {s : LSta} (h : TS W w tb mb ev kb kv qs s) (c : LCommon) (cv fv : Value) (a b : Int) (dt : List UInt8) (da : Option Addr) (dc dn : Nat) (hw : IntKind.i64.wrap (b * c.offset) = b * c.offset) :
    Calls Tryz.prog 31 #[.pointer (some ⟨tb, 0, none⟩), commonV c cv fv, callV 20 a b (.slice da dn dc), .pointer (some ⟨kb, 0, none⟩)] w (TOut W tb kb (some (s.1.put a ⟨3, 0, b * c.offset, []⟩, s.2)) w) := by
  have H := Lib.hid h
  obtain ⟨w1, hw1⟩ : ∃ w1, (w.alloc (.cells #[.int .i64 c.version, .int .u64 (c.code : Int), .int .i64 c.offset, .int .i64 c.ret, cv, fv] 36)).alloc (.cells #[.int .i64 20, .int .i64 a, .int .i64 b, .slice da dn dc] 53) = w1 := ⟨_, rfl⟩
  have F1 : Hid (Fr [] w w1) := by rw [← hw1]; exact ((Fr.refl _ _).alloc _).alloc _
  have B0 : Hid (w1.heap[w.heap.size]? = some (.cells #[.int .i64 c.version, .int .u64 (c.code : Int), .int .i64 c.offset, .int .i64 c.ret, cv, fv] 36 (0, 0))) := by rw [← hw1]; exact blk_alloc (blk_new w _)
  have B1 : Hid (w1.heap[w.heap.size + 1]? = some (.cells #[.int .i64 20, .int .i64 a, .int .i64 b, .slice da dn dc] 53 (0, 0))) := by
    have h := blk_new (w.alloc (.cells #[.int .i64 c.version, .int .u64 (c.code : Int), .int .i64 c.offset, .int .i64 c.ret, cv, fv] 36)) (.cells #[.int .i64 20, .int .i64 a, .int .i64 b, .slice da dn dc] 53)
    rw [World.size_alloc, hw1] at h; exact h
  have H1 := Lib.hid (h.idle F1.out)
  have o2 : w1.cell? ⟨w.heap.size, 2, none⟩ = some (.int .i64 c.offset) := by rw [blk_cell B0.out]; rfl
  have x0 : w1.cell? ⟨w.heap.size + 1, 0, none⟩ = some (.int .i64 20) := by rw [blk_cell B1.out]; rfl
  have x1 : w1.cell? ⟨w.heap.size + 1, 1, none⟩ = some (.int .i64 a) := by rw [blk_cell B1.out]; rfl
  have x2 : w1.cell? ⟨w.heap.size + 1, 2, none⟩ = some (.int .i64 b) := by rw [blk_cell B1.out]; rfl
  have x3 : w1.cell? ⟨w.heap.size + 1, 3, none⟩ = some (.slice da dn dc) := by rw [blk_cell B1.out]; rfl
  have e1 : IntKind.i64.wrap (b * c.offset) = b * c.offset := hw
  have NE0 : Hid (w.heap.size ≠ mb) := H1.out.mp.ne B0.out
  have NE1 : Hid (w.heap.size + 1 ≠ mb) := H1.out.mp.ne B1.out
  have NE2 : Hid (tb ≠ mb) := H1.out.mp.ne H1.out.ht
  unfold commonV callV
  clear h
  go_enter Tryz.func31, Tryz.ntmps31
  go_upto_region 2 with fail
  clear hw1
  have m1 : w1.cell? ⟨tb, 4, none⟩ = some (.map (some mb)) := H1.out.cell 4
  obtain ⟨p, hpe⟩ : ∃ p, b * c.offset = p := ⟨_, rfl⟩
  rw [hpe] at e1
  have HPE := Lib.hid hpe
  obtain ⟨wz, hrun, hz, hfz⟩ := H1.out.upd ((Fr.refl [] w1).drew) a ⟨3, 0, p, []⟩ (.agg #[.int .i64 3, .int .i64 0, .int .i64 p, .slice none 0 0]) (SRul.mk W 3 p 0)
  have HZ := Lib.hid hz
  have e2 : IntKind.i64.wrap (b * c.offset) = p := by rw [hpe]; exact e1
  clear hpe e1 hw
  have HFZ : Hid (Fr [mb] w1 wz) := ((Fr.refl [mb] w1).drew).trans hfz (fun i h _ => h)
  clear hz hfz
  go_wp2_with fail
  go_region_held3 (fun w' => w'.cell? ⟨tb, 4, none⟩ = some (.map (some mb)) ∧ w'.cell? ⟨w.heap.size + 1, 2, none⟩ = some (.int .i64 b) ∧ w'.cell? ⟨w.heap.size, 2, none⟩ = some (.int .i64 c.offset))
    (first | exact ⟨m1, x2, o2⟩ | exact ⟨HFZ.out.cell m1 (by simpa using NE2.out), HFZ.out.cell x2 (by simpa using NE1.out), HFZ.out.cell o2 (by simpa using NE0.out)⟩)
    (fail)
  all_goals
    go_wp2_with fail
    go_ret
    exact ⟨rfl, mb, ev, kv, qs, by rw [HPE.out]; exact HZ.out⟩

set_option maxRecDepth 100000 in
set_option maxHeartbeats 4000000 in
theorem tc_21 {W w : World} {tb mb kb : Nat} {ev kv : Value} {qs : List SQ} {s : LSta} (h : TS W w tb mb ev kb kv qs s) (c : LCommon) (cv fv : Value) (a b : Int) (dt : List UInt8) (da : Option Addr) (dc dn : Nat) (hw : IntKind.i64.wrap (b * c.offset) = b * c.offset) :
    Calls Tryz.prog 31 #[.pointer (some ⟨tb, 0, none⟩), commonV c cv fv, callV 21 a b (.slice da dn dc), .pointer (some ⟨kb, 0, none⟩)] w (TOut W tb kb (some (s.1.put a ⟨3, 0, b * c.offset, []⟩, s.2)) w) := by
  have H := Lib.hid h
  obtain ⟨w1, hw1⟩ : ∃ w1, (w.alloc (.cells #[.int .i64 c.version, .int .u64 (c.code : Int), .int .i64 c.offset, .int .i64 c.ret, cv, fv] 36)).alloc (.cells #[.int .i64 21, .int .i64 a, .int .i64 b, .slice da dn dc] 53) = w1 := ⟨_, rfl⟩
  have F1 : Hid (Fr [] w w1) := by rw [← hw1]; exact ((Fr.refl _ _).alloc _).alloc _
  have B0 : Hid (w1.heap[w.heap.size]? = some (.cells #[.int .i64 c.version, .int .u64 (c.code : Int), .int .i64 c.offset, .int .i64 c.ret, cv, fv] 36 (0, 0))) := by rw [← hw1]; exact blk_alloc (blk_new w _)
  have B1 : Hid (w1.heap[w.heap.size + 1]? = some (.cells #[.int .i64 21, .int .i64 a, .int .i64 b, .slice da dn dc] 53 (0, 0))) := by
    have h := blk_new (w.alloc (.cells #[.int .i64 c.version, .int .u64 (c.code : Int), .int .i64 c.offset, .int .i64 c.ret, cv, fv] 36)) (.cells #[.int .i64 21, .int .i64 a, .int .i64 b, .slice da dn dc] 53)
    rw [World.size_alloc, hw1] at h; exact h
  have H1 := Lib.hid (h.idle F1.out)
  have o2 : w1.cell? ⟨w.heap.size, 2, none⟩ = some (.int .i64 c.offset) := by rw [blk_cell B0.out]; rfl
  have x0 : w1.cell? ⟨w.heap.size + 1, 0, none⟩ = some (.int .i64 21) := by rw [blk_cell B1.out]; rfl
  have x1 : w1.cell? ⟨w.heap.size + 1, 1, none⟩ = some (.int .i64 a) := by rw [blk_cell B1.out]; rfl
  have x2 : w1.cell? ⟨w.heap.size + 1, 2, none⟩ = some (.int .i64 b) := by rw [blk_cell B1.out]; rfl
  have x3 : w1.cell? ⟨w.heap.size + 1, 3, none⟩ = some (.slice da dn dc) := by rw [blk_cell B1.out]; rfl
  have e1 : IntKind.i64.wrap (b * c.offset) = b * c.offset := hw
  have NE0 : Hid (w.heap.size ≠ mb) := H1.out.mp.ne B0.out
  have NE1 : Hid (w.heap.size + 1 ≠ mb) := H1.out.mp.ne B1.out
  have NE2 : Hid (tb ≠ mb) := H1.out.mp.ne H1.out.ht
  unfold commonV callV
  clear h
  go_enter Tryz.func31, Tryz.ntmps31
  go_upto_region 2 with fail
  clear hw1
  have m1 : w1.cell? ⟨tb, 4, none⟩ = some (.map (some mb)) := H1.out.cell 4
  obtain ⟨p, hpe⟩ : ∃ p, b * c.offset = p := ⟨_, rfl⟩
  rw [hpe] at e1
  have HPE := Lib.hid hpe
  obtain ⟨wz, hrun, hz, hfz⟩ := H1.out.upd ((Fr.refl [] w1).drew) a ⟨3, 0, p, []⟩ (.agg #[.int .i64 3, .int .i64 0, .int .i64 p, .slice none 0 0]) (SRul.mk W 3 p 0)
  have HZ := Lib.hid hz
  have e2 : IntKind.i64.wrap (b * c.offset) = p := by rw [hpe]; exact e1
  clear hpe e1 hw
  have HFZ : Hid (Fr [mb] w1 wz) := ((Fr.refl [mb] w1).drew).trans hfz (fun i h _ => h)
  clear hz hfz
  go_wp2_with fail
  go_region_held3 (fun w' => w'.cell? ⟨tb, 4, none⟩ = some (.map (some mb)) ∧ w'.cell? ⟨w.heap.size + 1, 2, none⟩ = some (.int .i64 b) ∧ w'.cell? ⟨w.heap.size, 2, none⟩ = some (.int .i64 c.offset))
    (first | exact ⟨m1, x2, o2⟩ | exact ⟨HFZ.out.cell m1 (by simpa using NE2.out), HFZ.out.cell x2 (by simpa using NE1.out), HFZ.out.cell o2 (by simpa using NE0.out)⟩)
    (fail)
  all_goals
    go_wp2_with fail
    go_ret
    exact ⟨rfl, mb, ev, kv, qs, by rw [HPE.out]; exact HZ.out⟩

set_option maxRecDepth 100000 in
set_option maxHeartbeats 4000000 in
theorem tc_7 {W w : World} {tb mb kb : Nat} {ev kv : Value} {qs : List SQ} {s : LSta} (h : TS W w tb mb ev kb kv qs s) (c : LCommon) (cv fv : Value) (a b : Int) (dt : List UInt8) (da : Option Addr) (dc dn : Nat)  :
    Calls Tryz.prog 31 #[.pointer (some ⟨tb, 0, none⟩), commonV c cv fv, callV 7 a b (.slice da dn dc), .pointer (some ⟨kb, 0, none⟩)] w (TOut W tb kb (some (s.1.put a ⟨0, 0, 0, []⟩, s.2)) w) := by
  have H := Lib.hid h
  obtain ⟨w1, hw1⟩ : ∃ w1, (w.alloc (.cells #[.int .i64 c.version, .int .u64 (c.code : Int), .int .i64 c.offset, .int .i64 c.ret, cv, fv] 36)).alloc (.cells #[.int .i64 7, .int .i64 a, .int .i64 b, .slice da dn dc] 53) = w1 := ⟨_, rfl⟩
  have F1 : Hid (Fr [] w w1) := by rw [← hw1]; exact ((Fr.refl _ _).alloc _).alloc _
  have B0 : Hid (w1.heap[w.heap.size]? = some (.cells #[.int .i64 c.version, .int .u64 (c.code : Int), .int .i64 c.offset, .int .i64 c.ret, cv, fv] 36 (0, 0))) := by rw [← hw1]; exact blk_alloc (blk_new w _)
  have B1 : Hid (w1.heap[w.heap.size + 1]? = some (.cells #[.int .i64 7, .int .i64 a, .int .i64 b, .slice da dn dc] 53 (0, 0))) := by
    have h := blk_new (w.alloc (.cells #[.int .i64 c.version, .int .u64 (c.code : Int), .int .i64 c.offset, .int .i64 c.ret, cv, fv] 36)) (.cells #[.int .i64 7, .int .i64 a, .int .i64 b, .slice da dn dc] 53)
    rw [World.size_alloc, hw1] at h; exact h
  have H1 := Lib.hid (h.idle F1.out)
  have o2 : w1.cell? ⟨w.heap.size, 2, none⟩ = some (.int .i64 c.offset) := by rw [blk_cell B0.out]; rfl
  have x0 : w1.cell? ⟨w.heap.size + 1, 0, none⟩ = some (.int .i64 7) := by rw [blk_cell B1.out]; rfl
  have x1 : w1.cell? ⟨w.heap.size + 1, 1, none⟩ = some (.int .i64 a) := by rw [blk_cell B1.out]; rfl
  have x2 : w1.cell? ⟨w.heap.size + 1, 2, none⟩ = some (.int .i64 b) := by rw [blk_cell B1.out]; rfl
  have x3 : w1.cell? ⟨w.heap.size + 1, 3, none⟩ = some (.slice da dn dc) := by rw [blk_cell B1.out]; rfl
  have NE0 : Hid (w.heap.size ≠ mb) := H1.out.mp.ne B0.out
  have NE1 : Hid (w.heap.size + 1 ≠ mb) := H1.out.mp.ne B1.out
  have NE2 : Hid (tb ≠ mb) := H1.out.mp.ne H1.out.ht
  unfold commonV callV
  clear h
  go_enter Tryz.func31, Tryz.ntmps31
  go_upto_region 2 with fail
  clear hw1
  have m1 : w1.cell? ⟨tb, 4, none⟩ = some (.map (some mb)) := H1.out.cell 4
  obtain ⟨wz, hrun, hz, hfz⟩ := H1.out.upd (Fr.refl [] w1) a ⟨0, 0, 0, []⟩ (.agg #[.int .i64 0, .int .i64 0, .int .i64 0, .slice none 0 0]) (SRul.mk W 0 0 0)
  have HZ := Lib.hid hz
  clear hz hfz
  go_wp2_with fail
  go_ret
  exact ⟨rfl, mb, ev, kv, qs, HZ.out⟩

set_option maxRecDepth 100000 in
set_option maxHeartbeats 4000000 in
theorem tc_8 {W w : World} {tb mb kb : Nat} {ev kv : Value} {qs : List SQ} {s : LSta} (h : TS W w tb mb ev kb kv qs s) (c : LCommon) (cv fv : Value) (a b : Int) (dt : List UInt8) (da : Option Addr) (dc dn : Nat)  :
    Calls Tryz.prog 31 #[.pointer (some ⟨tb, 0, none⟩), commonV c cv fv, callV 8 a b (.slice da dn dc), .pointer (some ⟨kb, 0, none⟩)] w (TOut W tb kb (some (s.1.put a ⟨1, 0, 0, []⟩, s.2)) w) := by
  have H := Lib.hid h
  obtain ⟨w1, hw1⟩ : ∃ w1, (w.alloc (.cells #[.int .i64 c.version, .int .u64 (c.code : Int), .int .i64 c.offset, .int .i64 c.ret, cv, fv] 36)).alloc (.cells #[.int .i64 8, .int .i64 a, .int .i64 b, .slice da dn dc] 53) = w1 := ⟨_, rfl⟩
  have F1 : Hid (Fr [] w w1) := by rw [← hw1]; exact ((Fr.refl _ _).alloc _).alloc _
  have B0 : Hid (w1.heap[w.heap.size]? = some (.cells #[.int .i64 c.version, .int .u64 (c.code : Int), .int .i64 c.offset, .int .i64 c.ret, cv, fv] 36 (0, 0))) := by rw [← hw1]; exact blk_alloc (blk_new w _)
  have B1 : Hid (w1.heap[w.heap.size + 1]? = some (.cells #[.int .i64 8, .int .i64 a, .int .i64 b, .slice da dn dc] 53 (0, 0))) := by
    have h := blk_new (w.alloc (.cells #[.int .i64 c.version, .int .u64 (c.code : Int), .int .i64 c.offset, .int .i64 c.ret, cv, fv] 36)) (.cells #[.int .i64 8, .int .i64 a, .int .i64 b, .slice da dn dc] 53)
    rw [World.size_alloc, hw1] at h; exact h
  have H1 := Lib.hid (h.idle F1.out)
  have o2 : w1.cell? ⟨w.heap.size, 2, none⟩ = some (.int .i64 c.offset) := by rw [blk_cell B0.out]; rfl
  have x0 : w1.cell? ⟨w.heap.size + 1, 0, none⟩ = some (.int .i64 8) := by rw [blk_cell B1.out]; rfl
  have x1 : w1.cell? ⟨w.heap.size + 1, 1, none⟩ = some (.int .i64 a) := by rw [blk_cell B1.out]; rfl
  have x2 : w1.cell? ⟨w.heap.size + 1, 2, none⟩ = some (.int .i64 b) := by rw [blk_cell B1.out]; rfl
  have x3 : w1.cell? ⟨w.heap.size + 1, 3, none⟩ = some (.slice da dn dc) := by rw [blk_cell B1.out]; rfl
  have NE0 : Hid (w.heap.size ≠ mb) := H1.out.mp.ne B0.out
  have NE1 : Hid (w.heap.size + 1 ≠ mb) := H1.out.mp.ne B1.out
  have NE2 : Hid (tb ≠ mb) := H1.out.mp.ne H1.out.ht
  unfold commonV callV
  clear h
  go_enter Tryz.func31, Tryz.ntmps31
  go_upto_region 2 with fail
  clear hw1
  have m1 : w1.cell? ⟨tb, 4, none⟩ = some (.map (some mb)) := H1.out.cell 4
  obtain ⟨wz, hrun, hz, hfz⟩ := H1.out.upd (Fr.refl [] w1) a ⟨1, 0, 0, []⟩ (.agg #[.int .i64 1, .int .i64 0, .int .i64 0, .slice none 0 0]) (SRul.mk W 1 0 0)
  have HZ := Lib.hid hz
  clear hz hfz
  go_wp2_with fail
  go_ret
  exact ⟨rfl, mb, ev, kv, qs, HZ.out⟩

set_option maxRecDepth 100000 in
set_option maxHeartbeats 4000000 in
theorem tc_9 {W w : World} {tb mb kb : Nat} {ev kv : Value} {qs : List SQ} {s : LSta} (h : TS W w tb mb ev kb kv qs s) (c : LCommon) (cv fv : Value) (a b : Int) (dt : List UInt8) (da : Option Addr) (dc dn : Nat)  :
    Calls Tryz.prog 31 #[.pointer (some ⟨tb, 0, none⟩), commonV c cv fv, callV 9 a b (.slice da dn dc), .pointer (some ⟨kb, 0, none⟩)] w (TOut W tb kb (some (s.1.put a ⟨4, b, 0, []⟩, s.2)) w) := by
  have H := Lib.hid h
  obtain ⟨w1, hw1⟩ : ∃ w1, (w.alloc (.cells #[.int .i64 c.version, .int .u64 (c.code : Int), .int .i64 c.offset, .int .i64 c.ret, cv, fv] 36)).alloc (.cells #[.int .i64 9, .int .i64 a, .int .i64 b, .slice da dn dc] 53) = w1 := ⟨_, rfl⟩
  have F1 : Hid (Fr [] w w1) := by rw [← hw1]; exact ((Fr.refl _ _).alloc _).alloc _
  have B0 : Hid (w1.heap[w.heap.size]? = some (.cells #[.int .i64 c.version, .int .u64 (c.code : Int), .int .i64 c.offset, .int .i64 c.ret, cv, fv] 36 (0, 0))) := by rw [← hw1]; exact blk_alloc (blk_new w _)
  have B1 : Hid (w1.heap[w.heap.size + 1]? = some (.cells #[.int .i64 9, .int .i64 a, .int .i64 b, .slice da dn dc] 53 (0, 0))) := by
    have h := blk_new (w.alloc (.cells #[.int .i64 c.version, .int .u64 (c.code : Int), .int .i64 c.offset, .int .i64 c.ret, cv, fv] 36)) (.cells #[.int .i64 9, .int .i64 a, .int .i64 b, .slice da dn dc] 53)
    rw [World.size_alloc, hw1] at h; exact h
  have H1 := Lib.hid (h.idle F1.out)
  have o2 : w1.cell? ⟨w.heap.size, 2, none⟩ = some (.int .i64 c.offset) := by rw [blk_cell B0.out]; rfl
  have x0 : w1.cell? ⟨w.heap.size + 1, 0, none⟩ = some (.int .i64 9) := by rw [blk_cell B1.out]; rfl
  have x1 : w1.cell? ⟨w.heap.size + 1, 1, none⟩ = some (.int .i64 a) := by rw [blk_cell B1.out]; rfl
  have x2 : w1.cell? ⟨w.heap.size + 1, 2, none⟩ = some (.int .i64 b) := by rw [blk_cell B1.out]; rfl
  have x3 : w1.cell? ⟨w.heap.size + 1, 3, none⟩ = some (.slice da dn dc) := by rw [blk_cell B1.out]; rfl
  have NE0 : Hid (w.heap.size ≠ mb) := H1.out.mp.ne B0.out
  have NE1 : Hid (w.heap.size + 1 ≠ mb) := H1.out.mp.ne B1.out
  have NE2 : Hid (tb ≠ mb) := H1.out.mp.ne H1.out.ht
  unfold commonV callV
  clear h
  go_enter Tryz.func31, Tryz.ntmps31
  go_upto_region 2 with fail
  clear hw1
  have m1 : w1.cell? ⟨tb, 4, none⟩ = some (.map (some mb)) := H1.out.cell 4
  obtain ⟨wz, hrun, hz, hfz⟩ := H1.out.upd ((Fr.refl [] w1).drew) a ⟨4, b, 0, []⟩ (.agg #[.int .i64 4, .int .i64 b, .int .i64 0, .slice none 0 0]) (SRul.mk W 4 0 b)
  have HZ := Lib.hid hz
  have HFZ : Hid (Fr [mb] w1 wz) := ((Fr.refl [mb] w1).drew).trans hfz (fun i h _ => h)
  clear hz hfz
  go_wp2_with fail
  go_region_held3 (fun w' => w'.cell? ⟨tb, 4, none⟩ = some (.map (some mb)) ∧ w'.cell? ⟨w.heap.size + 1, 2, none⟩ = some (.int .i64 b))
    (first | exact ⟨m1, x2⟩ | exact ⟨HFZ.out.cell m1 (by simpa using NE2.out), HFZ.out.cell x2 (by simpa using NE1.out)⟩)
    (fail)
  all_goals
    go_wp2_with fail
    go_ret
    exact ⟨rfl, mb, ev, kv, qs, HZ.out⟩

set_option maxRecDepth 100000 in
set_option maxHeartbeats 4000000 in
theorem tc_16 {W w : World} {tb mb kb : Nat} {ev kv : Value} {qs : List SQ} {s : LSta} (h : TS W w tb mb ev kb kv qs s) (c : LCommon) (cv fv : Value) (a b : Int) (dt : List UInt8) (da : Option Addr) (dc dn : Nat) (hd : Sl W (.slice da dn dc) (vbs dt)) :
    Calls Tryz.prog 31 #[.pointer (some ⟨tb, 0, none⟩), commonV c cv fv, callV 16 a b (.slice da dn dc), .pointer (some ⟨kb, 0, none⟩)] w (TOut W tb kb (some (s.1.put a ⟨5, 0, 0, dt⟩, s.2)) w) := by
  have H := Lib.hid h
  obtain ⟨w1, hw1⟩ : ∃ w1, (w.alloc (.cells #[.int .i64 c.version, .int .u64 (c.code : Int), .int .i64 c.offset, .int .i64 c.ret, cv, fv] 36)).alloc (.cells #[.int .i64 16, .int .i64 a, .int .i64 b, .slice da dn dc] 53) = w1 := ⟨_, rfl⟩
  have F1 : Hid (Fr [] w w1) := by rw [← hw1]; exact ((Fr.refl _ _).alloc _).alloc _
  have B0 : Hid (w1.heap[w.heap.size]? = some (.cells #[.int .i64 c.version, .int .u64 (c.code : Int), .int .i64 c.offset, .int .i64 c.ret, cv, fv] 36 (0, 0))) := by rw [← hw1]; exact blk_alloc (blk_new w _)
  have B1 : Hid (w1.heap[w.heap.size + 1]? = some (.cells #[.int .i64 16, .int .i64 a, .int .i64 b, .slice da dn dc] 53 (0, 0))) := by
    have h := blk_new (w.alloc (.cells #[.int .i64 c.version, .int .u64 (c.code : Int), .int .i64 c.offset, .int .i64 c.ret, cv, fv] 36)) (.cells #[.int .i64 16, .int .i64 a, .int .i64 b, .slice da dn dc] 53)
    rw [World.size_alloc, hw1] at h; exact h
  have H1 := Lib.hid (h.idle F1.out)
  have o2 : w1.cell? ⟨w.heap.size, 2, none⟩ = some (.int .i64 c.offset) := by rw [blk_cell B0.out]; rfl
  have x0 : w1.cell? ⟨w.heap.size + 1, 0, none⟩ = some (.int .i64 16) := by rw [blk_cell B1.out]; rfl
  have x1 : w1.cell? ⟨w.heap.size + 1, 1, none⟩ = some (.int .i64 a) := by rw [blk_cell B1.out]; rfl
  have x2 : w1.cell? ⟨w.heap.size + 1, 2, none⟩ = some (.int .i64 b) := by rw [blk_cell B1.out]; rfl
  have x3 : w1.cell? ⟨w.heap.size + 1, 3, none⟩ = some (.slice da dn dc) := by rw [blk_cell B1.out]; rfl
  have NE0 : Hid (w.heap.size ≠ mb) := H1.out.mp.ne B0.out
  have NE1 : Hid (w.heap.size + 1 ≠ mb) := H1.out.mp.ne B1.out
  have NE2 : Hid (tb ≠ mb) := H1.out.mp.ne H1.out.ht
  unfold commonV callV
  clear h
  go_enter Tryz.func31, Tryz.ntmps31
  go_upto_region 2 with fail
  clear hw1
  have m1 : w1.cell? ⟨tb, 4, none⟩ = some (.map (some mb)) := H1.out.cell 4
  obtain ⟨wz, hrun, hz, hfz⟩ := H1.out.upd ((Fr.refl [] w1).drew) a ⟨5, 0, 0, dt⟩ (.agg #[.int .i64 5, .int .i64 0, .int .i64 0, .slice da dn dc]) ⟨_, rfl, hd⟩
  have HZ := Lib.hid hz
  have HFZ : Hid (Fr [mb] w1 wz) := ((Fr.refl [mb] w1).drew).trans hfz (fun i h _ => h)
  clear hz hfz
  go_wp2_with fail
  go_region_held3 (fun w' => w'.cell? ⟨tb, 4, none⟩ = some (.map (some mb)) ∧ w'.cell? ⟨w.heap.size + 1, 3, none⟩ = some (.slice da dn dc))
    (first | exact ⟨m1, x3⟩ | exact ⟨HFZ.out.cell m1 (by simpa using NE2.out), HFZ.out.cell x3 (by simpa using NE1.out)⟩)
    (fail)
  all_goals
    go_wp2_with fail
    go_ret
    exact ⟨rfl, mb, ev, kv, qs, HZ.out⟩

set_option maxRecDepth 100000 in
set_option maxHeartbeats 4000000 in
theorem tc_22 {W w : World} {tb mb kb : Nat} {ev kv : Value} {qs : List SQ} {s : LSta} (h : TS W w tb mb ev kb kv qs s) (c : LCommon) (cv fv : Value) (a b : Int) (dt : List UInt8) (da : Option Addr) (dc dn : Nat) (hd : Sl W (.slice da dn dc) (vbs dt)) :
    Calls Tryz.prog 31 #[.pointer (some ⟨tb, 0, none⟩), commonV c cv fv, callV 22 a b (.slice da dn dc), .pointer (some ⟨kb, 0, none⟩)] w (TOut W tb kb (some (s.1.put a ⟨6, 0, 0, dt⟩, s.2)) w) := by
  have H := Lib.hid h
  obtain ⟨w1, hw1⟩ : ∃ w1, (w.alloc (.cells #[.int .i64 c.version, .int .u64 (c.code : Int), .int .i64 c.offset, .int .i64 c.ret, cv, fv] 36)).alloc (.cells #[.int .i64 22, .int .i64 a, .int .i64 b, .slice da dn dc] 53) = w1 := ⟨_, rfl⟩
  have F1 : Hid (Fr [] w w1) := by rw [← hw1]; exact ((Fr.refl _ _).alloc _).alloc _
  have B0 : Hid (w1.heap[w.heap.size]? = some (.cells #[.int .i64 c.version, .int .u64 (c.code : Int), .int .i64 c.offset, .int .i64 c.ret, cv, fv] 36 (0, 0))) := by rw [← hw1]; exact blk_alloc (blk_new w _)
  have B1 : Hid (w1.heap[w.heap.size + 1]? = some (.cells #[.int .i64 22, .int .i64 a, .int .i64 b, .slice da dn dc] 53 (0, 0))) := by
    have h := blk_new (w.alloc (.cells #[.int .i64 c.version, .int .u64 (c.code : Int), .int .i64 c.offset, .int .i64 c.ret, cv, fv] 36)) (.cells #[.int .i64 22, .int .i64 a, .int .i64 b, .slice da dn dc] 53)
    rw [World.size_alloc, hw1] at h; exact h
  have H1 := Lib.hid (h.idle F1.out)
  have o2 : w1.cell? ⟨w.heap.size, 2, none⟩ = some (.int .i64 c.offset) := by rw [blk_cell B0.out]; rfl
  have x0 : w1.cell? ⟨w.heap.size + 1, 0, none⟩ = some (.int .i64 22) := by rw [blk_cell B1.out]; rfl
  have x1 : w1.cell? ⟨w.heap.size + 1, 1, none⟩ = some (.int .i64 a) := by rw [blk_cell B1.out]; rfl
  have x2 : w1.cell? ⟨w.heap.size + 1, 2, none⟩ = some (.int .i64 b) := by rw [blk_cell B1.out]; rfl
  have x3 : w1.cell? ⟨w.heap.size + 1, 3, none⟩ = some (.slice da dn dc) := by rw [blk_cell B1.out]; rfl
  have NE0 : Hid (w.heap.size ≠ mb) := H1.out.mp.ne B0.out
  have NE1 : Hid (w.heap.size + 1 ≠ mb) := H1.out.mp.ne B1.out
  have NE2 : Hid (tb ≠ mb) := H1.out.mp.ne H1.out.ht
  unfold commonV callV
  clear h
  go_enter Tryz.func31, Tryz.ntmps31
  go_upto_region 2 with fail
  clear hw1
  have m1 : w1.cell? ⟨tb, 4, none⟩ = some (.map (some mb)) := H1.out.cell 4
  obtain ⟨wz, hrun, hz, hfz⟩ := H1.out.upd ((Fr.refl [] w1).drew) a ⟨6, 0, 0, dt⟩ (.agg #[.int .i64 6, .int .i64 0, .int .i64 0, .slice da dn dc]) ⟨_, rfl, hd⟩
  have HZ := Lib.hid hz
  have HFZ : Hid (Fr [mb] w1 wz) := ((Fr.refl [mb] w1).drew).trans hfz (fun i h _ => h)
  clear hz hfz
  go_wp2_with fail
  go_region_held3 (fun w' => w'.cell? ⟨tb, 4, none⟩ = some (.map (some mb)) ∧ w'.cell? ⟨w.heap.size + 1, 3, none⟩ = some (.slice da dn dc))
    (first | exact ⟨m1, x3⟩ | exact ⟨HFZ.out.cell m1 (by simpa using NE2.out), HFZ.out.cell x3 (by simpa using NE1.out)⟩)
    (fail)
  all_goals
    go_wp2_with fail
    go_ret
    exact ⟨rfl, mb, ev, kv, qs, HZ.out⟩
end Go.Proofs.YtahohmdfllgedaaGreat
