/- executeCIEInstructions: the walk.
A frame is established: a common entry's instructions, then the frame's own up to a place. -/
import Derived.Test.YtahohmdfllgedaaGreatFa9
import Derived.Test.YtahohmdfllgedaaGreatFa7
set_option linter.unusedVariables false
set_option linter.unusedSimpArgs false
namespace Go.Proofs.YtahohmdfllgedaaGreat
open Go.RowKit

/-- What executeCIEInstructions leaves. -/
def CiOut (w : World) (cb : Nat) (c : LCommon) (o : Option LSta) (e : Ending) (w' : World) : Prop :=
  match o with
  | none => PanP w e w'
  | some s => ∃ fb K mb ev sv qs v l off rd, e = .returned (ptrX fb) ∧ K.cb = cb ∧ K.code = c.code ∧ K.dal = c.offset ∧ K.ret = c.ret.toNat ∧ FX w w' fb K mb ev sv qs (.slice none 0 0) v 0 s l off rd

/-- The machine as it is made. -/
theorem cie_fx {w W : World} {cb bA bI bb sb gb il code ret : Nat} {dal : Int} {sv : Value} {L : List LCall} {cs : Array Value} (hA : MapIs W bA .u64 fun _ => none) (hI : MapIs W bI .u64 fun _ => none) (hne : bA ≠ bI)
    (hB : W.heap[bb]? = some (.cells #[.slice (some ⟨gb, 0, none⟩) il il, .int .i64 0, .bool false] 132 (0, 0))) (hS : W.heap[sb]? = some (.cells #[sv] 203 (0, 0))) (hsv : W.ownsRow w.heap.size 216 5 sv 0 [])
    (hcb : W.heap[cb]? = some (.cells cs 138 (0, 0))) (hc8 : cs[8]? = some (.int .u64 0)) (hO : W.ownsRow w.heap.size 5 1 (.slice (some ⟨gb, 0, none⟩) il il) il (vbs (callsL L))) (hn : (callsL L).length = il) (hlen : il ≤ 1073741824 + 3000)
    (hf : Fr [] w W) (gA : w.heap.size ≤ bA) (gB : w.heap.size ≤ bb) (gS : w.heap.size ≤ sb) :
    FX w (W.alloc (.cells (fcells ⟨0, .nilIface, bI, bb, cb, sb, ret, code, dal⟩ 0 tab0.cfa (.slice none 0 0) bA) 87)) W.heap.size ⟨0, .nilIface, bI, bb, cb, sb, ret, code, dal⟩ bA (.slice none 0 0) sv [] (.slice none 0 0) (.slice (some ⟨gb, 0, none⟩) il il) 0 (tab0, []) (callsL L) 0 false := by
  have fa : ∀ x, Fr [] W (W.alloc x) := fun x => (Fr.refl _ _).alloc x
  subst hn
  refine ⟨blk_new W _, ⟨(fa _).get hB (by simp), own_sl (own_fr hO (fa _) (by simp)), ?_, Nat.zero_le _, by omega⟩, ⟨ExV.nil _ _, ⟨_, hA.fr (fa _) (by simp), fun k => .inl ⟨rfl, rfl⟩⟩, hI.fr (fa _) (by simp), (fa _).get hS (by simp), own_fr hsv (fa _) (by simp), by simp, rfl, by simpa using hne, ⟨cs, (fa _).get hcb (by simp), hc8⟩, own_fr hO (fa _) (by simp), by simp [Value.ownBlock], gA, by simp, gS, gB⟩, hf.alloc _, hf.size⟩
  intro e
  simp [Value.ownBlock] at e
  subst e
  obtain ⟨cur, hc⟩ := own_cells hO (g := gb) rfl
  exact cells_ne hB hc (by decide) rfl

set_option maxRecDepth 100000 in
set_option maxHeartbeats 8000000 in
theorem execCIE_any (cb : Nat) (c : LCommon) (vd : Value) (w : World) (hc : CieAt w vd cb c) (hr : rcB c = true) (hi : ∀ x ∈ c.calls, i64 x.a ∧ i64 x.b) :
    Calls Tryz.prog 57 #[ptrX cb] w (CiOut w cb c (iRun c.offset c.calls (tab0, []))) := by
  obtain ⟨Lf, N, ia, il, ic, z, hcb, hsl, hz, hio⟩ := hc
  obtain ⟨q1, q2, q3, q4, q5, q6, q7, q8, q9, q10, q11⟩ := rc_facts hr
  obtain ⟨L, hL⟩ : ∃ L, c.calls ++ List.replicate z cnop = L := ⟨_, rfl⟩
  have hLk : ∀ x ∈ L, OkI x := by rw [← hL]; exact ok_pad (fun x hx => okI_of (q10 x hx) (hi x hx)) okI_cnop
  have hbytes : callsL c.calls ++ List.replicate z 0 = callsL L := by rw [← hL, callsL_pad]
  have hrunL : iRun c.offset c.calls (tab0, []) = iRun c.offset L (tab0, []) := by rw [← hL, iRun_pad]
  have hpu : pushes L ≤ 200 := by rw [← hL, pushes_pad]; exact Nat.le_trans (pushes_le _) (by omega)
  have hlen : (callsL L).length ≤ 1073741824 + 3000 := by
    rw [← hbytes, List.length_append, List.length_replicate]
    have := callsL_len c.calls (fun x hx => callL_len x (okI_of (q10 x hx) (hi x hx)).r (hi x hx).1 (hi x hx).2)
    omega
  rw [hbytes] at hsl
  rw [hrunL]
  obtain ⟨n, hn⟩ : ∃ n, (callsL L).length = n := ⟨_, rfl⟩
  have hil : il = n := by obtain ⟨h1, -, -⟩ := sl_news3 hsl; rw [h1, ← hn]; simp
  subst hil
  rw [hn] at hlen
  obtain ⟨C, hC, hmk⟩ := make_bytesN .i64 il (by omega)
  obtain ⟨w1, hw1⟩ : ∃ w1, w.alloc (.cells C 5) = w1 := ⟨_, rfl⟩
  have hf1 : Fr [] w w1 := by rw [← hw1]; exact (Fr.refl _ _).alloc _
  have hb1 : w1.heap[w.heap.size]? = some (.cells C 5 (0, 0)) := by rw [← hw1]; exact blk_new w _
  have hmk1 := hmk w
  rw [hw1] at hmk1
  obtain ⟨w2, hcp, hb2, hf2⟩ := copyB_run w1 w.heap.size il C ia ic (callsL L) hb1 hC hn (hsl.fr hf1 (by simp))
  have F2 : Hid (Fr [] w w2) := hf1.trans hf2 (fun i hi hlt => by simp at hi; omega)
  have HO2 : Hid (w2.ownsRow w.heap.size 5 1 (.slice (some ⟨w.heap.size, 0, none⟩) il il) il (vbs (callsL L))) := own_made hb2 (by simp [hn]) (Nat.le_refl _) (by omega)
  have hcb1 : w1.heap[cb]? = _ := hf1.get hcb (by simp)
  have hcb2 : w2.heap[cb]? = _ := F2.out.get hcb (by simp)
  have i7 := blk_cell hcb 7
  have i7' := blk_cell hcb1 7
  have i4 := blk_cell hcb2 4
  have i5 := blk_cell hcb2 5
  have i6 := blk_cell hcb2 6
  simp only [List.getElem?_toArray, List.getElem?_cons_zero, List.getElem?_cons_succ] at i4 i5 i6 i7 i7'
  have HCB := Lib.hid hcb2
  have HLk := Lib.hid hLk
  have HN := Lib.hid hn
  generalize hcode : c.code = code at *
  generalize hdal : c.offset = dal at *
  generalize hret : c.ret.toNat = ret at *
  have HCO := Lib.hid (And.intro hcode (And.intro hdal hret))
  clear hcode hdal hret
  have HSZ : Hid (w.heap.size < w2.heap.size) := by have h1 := lt_heap hb2; exact h1
  obtain ⟨gb, hgb⟩ : ∃ gb, w.heap.size = gb := ⟨_, rfl⟩
  have HGB := Lib.hid hgb
  rw [hgb] at hmk1 HO2
  simp only [hgb] at hcp
  clear hcb hsl hio hr hi q1 q6 q7 q8 q9 q10 q11 hL hLk hbytes hrunL hn hmk hw1 hf1 hb1 hb2 hf2 hcb1 hcb2 hC hgb
  go_enter Tryz.func57, Tryz.ntmps57
  go_upto_region 3 with fail
  have HS : Hid (∀ w', Fr [] w2 w' → w'.cell? ⟨cb, 6, none⟩ = some (.int .u64 (ret : Int)) ∧ w'.cell? ⟨cb, 4, none⟩ = some (.int .u64 (code : Int)) ∧ w'.cell? ⟨cb, 5, none⟩ = some (.int .i64 dal)) := fun w' f => ⟨f.cell i6 (by simp), f.cell i4 (by simp), f.cell i5 (by simp)⟩
  clear i4 i5 i6 i7 i7' hmk1 hcp
  obtain ⟨mk, hmk, hmk2⟩ : ∃ mk : World → Nat × World, (∀ W, (Instr.makeMap 82 none).run Tryz.prog W = .ok (.map (some (mk W).1)) (mk W).2) ∧ ∀ W, MapIs (mk W).2 (mk W).1 .u64 (fun _ => none) ∧ (mk W).1 = W.heap.size ∧ (mk W).2.heap.size = W.heap.size + 1 ∧ Fr [] W (mk W).2 := ⟨fun W => (W.heap.size, W.alloc (.map #[] 0)), fun W => rfl, fun W => ⟨MapIs.empty _ (blk_new W _), rfl, by simp, (Fr.refl _ _).alloc _⟩⟩
  have HMK := Lib.hid hmk2
  clear hmk2
  go_region_held3 (fun w' => w'.cell? ⟨cb, 6, none⟩ = some (.int .u64 (ret : Int)) ∧ w'.cell? ⟨cb, 4, none⟩ = some (.int .u64 (code : Int)) ∧ w'.cell? ⟨cb, 5, none⟩ = some (.int .i64 dal))
    (exact HS.out _ (by repeat (first | exact Fr.refl _ _ | exact F2.out | refine Fr.then ?_ (HMK.out _).2.2.2 | refine Fr.then ?_ FB.out | refine Fr.then ?_ FS.out | refine Fr.drew ?_ | refine Fr.alloc ?_ _)))
    ((first | (go_at_call 38; go_must (refine (NewBuffer_any _ _ _ _).mono ?_); rintro e WB ⟨rfl, hwb⟩; have HWB := Lib.hid hwb; have FB : Hid (Fr [] _ WB) := (by rw [hwb]; exact (Fr.refl _ _).alloc _); have BB : Hid (WB.heap[_]? = _) := (by rw [hwb]; exact blk_new _ _); clear hwb)
            | (go_at_call 82; go_must (refine (newStateStack_any _).mono ?_); rintro e WS ⟨sb, sv, rfl, hgs, hst, hsr, hfs⟩; have GS := Lib.hid hgs; have ST := Lib.hid hst; have SR := Lib.hid hsr; have FS := Lib.hid hfs; clear hgs hst hsr hfs)))
  all_goals
    go_wp2_with fail
    refine (execProg_any (cie_fx (w := w) (cb := cb) (code := code) (ret := ret) (dal := dal) (L := L) (gb := gb) (il := il) (sb := sb) (sv := sv) ?hA ?hI ?hne ?hB ?hS ?hsv (Fr.get (bs := []) (by repeat (first | exact Fr.refl _ _ | exact F2.out | refine Fr.then ?_ (HMK.out _).2.2.2 | refine Fr.then ?_ FB.out | refine Fr.then ?_ FS.out | refine Fr.drew ?_ | refine Fr.alloc ?_ _)) HCB.out (by simp)) rfl ?hO HN.out hlen ?hf ?gA ?gB ?gS) HLk.out rfl hpu (Nat.zero_le _) q4 q5 q3).mono ?_
    case hA => exact MapIs.fr (bs := []) (HMK.out _).1 (by repeat (first | exact Fr.refl _ _ | exact F2.out | refine Fr.then ?_ (HMK.out _).2.2.2 | refine Fr.then ?_ FB.out | refine Fr.then ?_ FS.out | refine Fr.drew ?_ | refine Fr.alloc ?_ _)) (by simp)
    case hI => exact MapIs.fr (bs := []) (HMK.out _).1 (by repeat (first | exact Fr.refl _ _ | exact F2.out | refine Fr.then ?_ (HMK.out _).2.2.2 | refine Fr.then ?_ FB.out | refine Fr.then ?_ FS.out | refine Fr.drew ?_ | refine Fr.alloc ?_ _)) (by simp)
    case hne =>
      first
      | (refine Nat.ne_of_lt (Nat.lt_of_lt_of_le (HMK.out _).1.lt (Nat.le_trans (Fr.size (bs := []) ?_) (Nat.le_of_eq (HMK.out _).2.1.symm))); (repeat (first | exact Fr.refl _ _ | exact F2.out | refine Fr.then ?_ (HMK.out _).2.2.2 | refine Fr.then ?_ FB.out | refine Fr.then ?_ FS.out | refine Fr.drew ?_ | refine Fr.alloc ?_ _)); done)
      | (refine Nat.ne_of_gt (Nat.lt_of_lt_of_le (HMK.out _).1.lt (Nat.le_trans (Fr.size (bs := []) ?_) (Nat.le_of_eq (HMK.out _).2.1.symm))); (repeat (first | exact Fr.refl _ _ | exact F2.out | refine Fr.then ?_ (HMK.out _).2.2.2 | refine Fr.then ?_ FB.out | refine Fr.then ?_ FS.out | refine Fr.drew ?_ | refine Fr.alloc ?_ _)); done)
    case hB => exact Fr.get (bs := []) (by repeat (first | exact Fr.refl _ _ | exact F2.out | refine Fr.then ?_ (HMK.out _).2.2.2 | refine Fr.then ?_ FB.out | refine Fr.then ?_ FS.out | refine Fr.drew ?_ | refine Fr.alloc ?_ _)) BB.out (by simp)
    case hS => exact Fr.get (bs := []) (by repeat (first | exact Fr.refl _ _ | exact F2.out | refine Fr.then ?_ (HMK.out _).2.2.2 | refine Fr.then ?_ FB.out | refine Fr.then ?_ FS.out | refine Fr.drew ?_ | refine Fr.alloc ?_ _)) ST.out (by simp)
    case hsv => exact own_fr (bs := []) (own_base SR.out (Fr.size (bs := []) (by repeat (first | exact Fr.refl _ _ | exact F2.out | refine Fr.then ?_ (HMK.out _).2.2.2 | refine Fr.then ?_ FB.out | refine Fr.then ?_ FS.out | refine Fr.drew ?_ | refine Fr.alloc ?_ _)))) (by repeat (first | exact Fr.refl _ _ | exact F2.out | refine Fr.then ?_ (HMK.out _).2.2.2 | refine Fr.then ?_ FB.out | refine Fr.then ?_ FS.out | refine Fr.drew ?_ | refine Fr.alloc ?_ _)) (by simp)
    case hO => exact own_fr (bs := []) (w := w2) (by rw [HGB.out]; exact HO2.out) (by repeat (first | exact Fr.refl _ _ | exact F2.out | refine Fr.then ?_ (HMK.out _).2.2.2 | refine Fr.then ?_ FB.out | refine Fr.then ?_ FS.out | refine Fr.drew ?_ | refine Fr.alloc ?_ _)) (by simp)
    case hf => exact (by repeat (first | exact Fr.refl _ _ | exact F2.out | refine Fr.then ?_ (HMK.out _).2.2.2 | refine Fr.then ?_ FB.out | refine Fr.then ?_ FS.out | refine Fr.drew ?_ | refine Fr.alloc ?_ _))
    case gA => exact Nat.le_trans (Fr.size (bs := []) (by repeat (first | exact Fr.refl _ _ | exact F2.out | refine Fr.then ?_ (HMK.out _).2.2.2 | refine Fr.then ?_ FB.out | refine Fr.then ?_ FS.out | refine Fr.drew ?_ | refine Fr.alloc ?_ _))) (Nat.le_of_eq (HMK.out _).2.1.symm)
    case gB => exact Fr.size (bs := []) (by repeat (first | exact Fr.refl _ _ | exact F2.out | refine Fr.then ?_ (HMK.out _).2.2.2 | refine Fr.then ?_ FB.out | refine Fr.then ?_ FS.out | refine Fr.drew ?_ | refine Fr.alloc ?_ _))
    case gS => exact Nat.le_trans (Fr.size (bs := []) (by repeat (first | exact Fr.refl _ _ | exact F2.out | refine Fr.then ?_ (HMK.out _).2.2.2 | refine Fr.then ?_ FB.out | refine Fr.then ?_ FS.out | refine Fr.drew ?_ | refine Fr.alloc ?_ _))) GS.out
    intro e W' hr
    cases hic : iRun dal L (tab0, []) with
    | none =>
      rw [hic] at hr
      obtain ⟨⟨t, x, rfl⟩, hf⟩ := hr
      refine ⟨rfl, ?_⟩
      exact ⟨⟨_, _, rfl⟩, hf⟩
    | some s =>
      rw [hic] at hr
      obtain ⟨rfl, mb, ev, sv', qs, rd, hx⟩ := hr
      have HX := Lib.hid hx
      clear hx
      go_wp2_with fail
      go_ret
      unfold CiOut
      rw [hic]
      exact ⟨_, _, mb, ev, sv', qs, _, _, _, rd, rfl, rfl, HCO.out.1.symm, HCO.out.2.1.symm, HCO.out.2.2.symm, HX.out⟩
end Go.Proofs.YtahohmdfllgedaaGreat

namespace Go.Proofs.YtahohmdfllgedaaGreat
open Go.RowKit

section
variable {w0 w w' : World} {fb : Nat} {K K' : FK} {mb : Nat} {ev sv : Value} {qs : List SQ} {xv v : Value} {loc loc' : Nat} {s : LSta} {l : List UInt8} {off : Nat} {rd : Bool}
theorem FO.reK (h : FO w0 w K mb ev sv qs xv v s l) (h1 : K'.ib = K.ib) (h2 : K'.bb = K.bb) (h3 : K'.cb = K.cb) (h4 : K'.sb = K.sb) : FO w0 w K' mb ev sv qs xv v s l := by
  obtain ⟨a1, a2, a3, a4, a5, a6, a7, a8, a9, b1, b2, b3, b4, b5, b6⟩ := h
  rw [← h1] at a3 a8
  rw [← h2] at b6
  rw [← h3] at a9
  rw [← h4] at a4 b5
  exact ⟨a1, a2, a3, a4, a5, a6, a7, a8, a9, b1, b2, b3, b4, b5, b6⟩
/-- A cell of the context turns. -/
theorem FX.setK (h : FX w0 w fb K mb ev sv qs xv v loc s l off rd) (i : Nat) (u : Value) (he : (fcells K loc s.1.cfa ev mb).setIfInBounds i u = fcells K' loc' s.1.cfa ev mb) (h1 : K'.ib = K.ib) (h2 : K'.bb = K.bb) (h3 : K'.cb = K.cb) (h4 : K'.sb = K.sb) :
    FX w0 (w.setCell ⟨fb, i, none⟩ u) fb K' mb ev sv qs xv v loc' s l off rd := by
  have hf : Fr [fb] w (w.setCell ⟨fb, i, none⟩ u) := (Fr.refl _ _).setCell (.inl (by simp)) _
  exact ⟨by rw [← he]; exact blk_set h.fc i u, by rw [h2]; exact h.bf.fr hf (by simpa using h.buf_ne) (fun g hg => by simpa using h.own_ne g hg), (h.fo.reK h1 h2 h3 h4).keep hf (fun k hk => by simp at hk; subst hk; exact ⟨_, _, _, h.fc, by decide⟩),
    h.fr.setCell (.inr (by show w0.heap.size ≤ fb; exact h.gf)) _, h.gf⟩
end

/-- What executeDwarfProgramUntilPC leaves. -/
def VOut (w : World) (c : LCommon) (f : LFrame) (pc : Nat) (e : Ending) (w' : World) : Prop :=
  match (iRun c.offset c.calls (tab0, [])).bind (fun s => iFde c.code c.offset pc f.start f.calls s) with
  | none => PanP w e w'
  | some s => ∃ fb K mb ev sv qs v l loc off rd, e = .returned (ptrX fb) ∧ K.ret = c.ret.toNat ∧ FX w w' fb K mb ev sv qs v v loc s l off rd

theorem iCall_len1 {off : Int} {x : LCall} {s s' : LSta} (h : iCall off x s = some s') : s'.2.length ≤ s.2.length + 1 := by
  have := iCall_len h
  have : push1 x ≤ 1 := by unfold push1; split <;> omega
  omega
theorem iRun_len {off : Int} {l : List LCall} : ∀ {s s' : LSta}, iRun off l s = some s' → s'.2.length ≤ s.2.length + l.length := by
  induction l with
  | nil => intro s s' h; obtain rfl := Option.some.inj h; simp
  | cons x xs ih =>
    intro s s' h
    obtain ⟨t, ht, h2⟩ := Option.bind_eq_some_iff.1 h
    have := ih h2
    have := iCall_len1 ht
    simp only [List.length_cons]; omega

set_option maxRecDepth 100000 in
set_option maxHeartbeats 8000000 in
theorem execUntilPC_any (w : World) (dv : Value) (fb0 pc : Nat) (c : LCommon) (f : LFrame) (hF : FdeAt w dv fb0 ordLE c f) (hdv : ∀ g, dv.ownBlock = some g → g < w.heap.size) (hr : rcB c = true) (hf : frB f = true) (hi : ∀ x ∈ c.calls, i64 x.a ∧ i64 x.b) (hj : ∀ x ∈ f.calls, i64 x.a ∧ i64 x.b) (hpc : pc ≤ 4398046511104) :
    Calls Tryz.prog 45 #[ptrX fb0, .int .u64 (pc : Int)] w (VOut w c f pc) := by
  obtain ⟨q1, q2, q3, q4, q5, q6, q7, q8, q9, q10, q11⟩ := rc_facts hr
  obtain ⟨r1, r2, r3, r4, r5⟩ := fr_facts hf
  have HFD := Lib.hid hF
  obtain ⟨Lf, cb, ia, il, ic, z, hfb, hsl, ⟨hz, hio⟩, hcie⟩ := hF
  obtain ⟨L, hL⟩ : ∃ L, f.calls ++ List.replicate z cnop = L := ⟨_, rfl⟩
  have hLk : ∀ x ∈ L, OkC x := by rw [← hL]; exact ok_pad (fun x hx => okC_of (r5 x hx) (hj x hx)) okC_cnop
  have hbytes : callsL f.calls ++ List.replicate z 0 = callsL L := by rw [← hL, callsL_pad]
  have hrunL : ∀ s, iFde c.code c.offset pc f.start f.calls s = iFde c.code c.offset pc f.start L s := fun s => by rw [← hL, iFde_pad]
  have hpu : pushes L ≤ 200 := by rw [← hL, pushes_pad]; exact Nat.le_trans (pushes_le _) (by omega)
  have hlen : (callsL L).length ≤ 1073741824 + 10000 := by
    rw [← hbytes, List.length_append, List.length_replicate]
    have := callsL_len f.calls (fun x hx => callL_len x (okC_of (r5 x hx) (hj x hx)).r (hj x hx).1 (hj x hx).2)
    omega
  rw [hbytes] at hsl
  obtain ⟨hsl1, -, -⟩ := sl_news3 hsl
  have hil : il = (callsL L).length := by rw [hsl1]; simp
  subst hil
  have hslo : ∀ g, (Value.slice ia (callsL L).length ic).ownBlock = some g → g < w.heap.size := fun g hg => hdv g (hio g hg)
  obtain ⟨n, hn⟩ : ∃ n, (callsL L).length = n := ⟨_, rfl⟩
  have g1 : w.cell? ⟨fb0, 1, none⟩ = some (ptrV cb) := blk_cell hfb 1
  have HSL := Lib.hid hsl
  have HSO := Lib.hid hslo
  rw [hn] at hfb
  have HN := Lib.hid hn
  have HFB := Lib.hid hfb
  have HLk := Lib.hid hLk
  have HRL := Lib.hid hrunL
  have HD := Lib.hid (And.intro q4 (And.intro q5 q3))
  have HP := Lib.hid (And.intro hpu hlen)
  have HC9 := Lib.hid q9
  have HCI := Lib.hid (execCIE_any cb c dv w hcie hr hi)
  clear hn hfb hsl hslo hLk hrunL hL hbytes hcie hio hz hpu hlen hsl1 q1 q2 q3 q4 q5 q6 q7 q8 q9 q10 q11 r1 r2 r3 r4 r5 hi hj hr hf hdv
  cases hic : iRun c.offset c.calls (tab0, []) with
  | none =>
    have HIC := Lib.hid hic
    clear hic
    go_enter Tryz.func45, Tryz.ntmps45
    go_wp2_with fail
    refine HCI.out.mono ?_
    intro e w1 h1
    unfold CiOut at h1
    rw [HIC.out] at h1
    obtain ⟨⟨t, x, rfl⟩, hf1⟩ := h1
    refine ⟨rfl, ?_⟩
    unfold VOut
    rw [HIC.out]
    exact ⟨⟨_, _, rfl⟩, hf1⟩
  | some s1 =>
    have HIC := Lib.hid hic
    clear hic
    go_enter Tryz.func45, Tryz.ntmps45
    go_upto_region 2 with (go_at_call 57; go_must (refine HCI.out.mono ?_); intro e w1 h1; unfold CiOut at h1; rw [HIC.out] at h1; obtain ⟨fb, ⟨kpc, kord, kib, kbb, kcb, ksb, kret, kcode, kdal⟩, mb, ev, sv, qs, v, l, off, rd, rfl, hKb, hKc, hKd, hKr, hx⟩ := h1; simp only at hKb hKc hKd hKr; subst hKb hKc hKd hKr; have HX := Lib.hid hx; clear hx)
    have g5 : w1.cell? ⟨fb0, 5, none⟩ = some ordLE := blk_cell (HX.out.fr.get HFB.out (by simp)) 5
    have z1 : w1.frozen? ⟨fb, 1, none⟩ = false := HX.out.free 1
    have y1 : w1.cell? ⟨fb, 1, none⟩ = some kord := HX.out.cell 1
    clear g1
    go_upto_region 3 with fail
    have HX2 := Lib.hid (HX.out.setK (K' := ⟨kpc, ordLE, kib, kbb, kcb, ksb, c.ret.toNat, c.code, c.offset⟩) (loc' := 0) 1 ordLE (by rfl) rfl rfl rfl rfl)
    clear g5 z1 y1
    generalize w1.setCell ⟨fb, 1, none⟩ ordLE = w2 at *
    have z0 : w2.frozen? ⟨fb, 0, none⟩ = false := HX2.out.free 0
    have y0 : w2.cell? ⟨fb, 0, none⟩ = some (.int .u64 ((0 : Nat) : Int)) := HX2.out.cell 0
    go_upto_region 4 with (go_at_call 29; go_must (refine (fdeBegin_any _ dv fb0 ordLE c f (HFD.out.idle HX2.out.fr)).mono ?_); rintro e wq ⟨rfl, rfl⟩)
    have HX3 := Lib.hid (HX2.out.setK (K' := ⟨kpc, ordLE, kib, kbb, kcb, ksb, c.ret.toNat, c.code, c.offset⟩) (loc' := f.start) 0 (.int .u64 (f.start : Int)) (by rfl) rfl rfl rfl rfl)
    clear z0 y0
    generalize w2.setCell ⟨fb, 0, none⟩ (.int .u64 (f.start : Int)) = w3 at *
    have z2 : w3.frozen? ⟨fb, 2, none⟩ = false := HX3.out.free 2
    have y2 : w3.cell? ⟨fb, 2, none⟩ = some (.int .u64 (kpc : Int)) := HX3.out.cell 2
    go_upto_region 5 with fail
    have HX4 := Lib.hid (HX3.out.setK (K' := ⟨pc, ordLE, kib, kbb, kcb, ksb, c.ret.toNat, c.code, c.offset⟩) (loc' := f.start) 2 (.int .u64 (pc : Int)) (by rfl) rfl rfl rfl rfl)
    clear z2 y2
    generalize w3.setCell ⟨fb, 2, none⟩ (.int .u64 (pc : Int)) = w4 at *
    have g2 : w4.cell? ⟨fb0, 2, none⟩ = some (.slice ia n ic) := blk_cell (HX4.out.fr.get HFB.out (by simp)) 2
    have HU : Hid (Calls Tryz.prog 58 #[ptrX fb, .slice ia n ic] w4 (UOut w fb ⟨pc, ordLE, kib, kbb, kcb, ksb, c.ret.toNat, c.code, c.offset⟩ (callsL L) .nilIface (iFde c.code c.offset pc f.start L s1))) := by
      have h := ExecuteUntil_any (L := L) (pa := ia) (pc := ic) HX4.out rfl (HSL.out.fr (bs := []) HX4.out.fr (fun _ _ h => by cases h)) HSO.out HP.out.2 HLk.out (by have h1 := iRun_len HIC.out; have h2 := HC9.out; simp at h1; omega) HP.out.1 rfl hpc HD.out.1 HD.out.2.1 HD.out.2.2
      rw [HN.out] at h
      exact h
    cases hif : iFde c.code c.offset pc f.start L s1 with
    | none =>
      rw [hif] at HU
      go_wp2_with fail
      refine HU.out.mono ?_
      rintro e w5 ⟨⟨t, x, rfl⟩, hf5⟩
      refine ⟨rfl, ?_⟩
      unfold VOut
      rw [HIC.out, Option.bind_some, HRL.out, hif]
      exact ⟨⟨_, _, rfl⟩, hf5⟩
    | some s2 =>
      rw [hif] at HU
      have HIF := Lib.hid hif
      clear hif
      go_wp2_with (go_at_call 58; go_must (refine HU.out.mono ?_); rintro e w5 ⟨rfl, mb5, ev5, sv5, qs5, v5, loc5, off5, rd5, hx5⟩; have HX5 := Lib.hid hx5; clear hx5)
      go_wp2_with fail
      go_ret
      unfold VOut
      rw [HIC.out, Option.bind_some, HRL.out, HIF.out]
      exact ⟨_, _, _, _, _, _, _, _, _, _, _, rfl, rfl, HX5.out⟩
/-- What EstablishFrame leaves. -/
def EOut (w : World) (c : LCommon) (f : LFrame) (pc : Nat) (e : Ending) (w' : World) : Prop :=
  match iRules c f pc with
  | none => PanP w e w'
  | some t => ∃ fb K mb ev sv qs v l loc off rd s, e = .returned (.tuple #[ptrX fb, .nilIface]) ∧ s.1 = t ∧ K.ret = c.ret.toNat ∧ FX w w' fb K mb ev sv qs v v loc s l off rd

set_option maxRecDepth 100000 in
set_option maxHeartbeats 8000000 in
theorem Establish_any (w : World) (dv : Value) (fb0 pc : Nat) (c : LCommon) (f : LFrame) (hF : FdeAt w dv fb0 ordLE c f) (hdv : ∀ g, dv.ownBlock = some g → g < w.heap.size) (hr : rcB c = true) (hf : frB f = true) (hi : ∀ x ∈ c.calls, i64 x.a ∧ i64 x.b) (hj : ∀ x ∈ f.calls, i64 x.a ∧ i64 x.b) (hpc : pc ≤ 4398046511104) :
    Calls Tryz.prog 26 #[ptrX fb0, .int .u64 (pc : Int)] w (EOut w c f pc) := by
  have HV := Lib.hid (execUntilPC_any w dv fb0 pc c f hF hdv hr hf hi hj hpc)
  clear hF hdv hr hf hi hj hpc
  cases hv : (iRun c.offset c.calls (tab0, [])).bind (fun s => iFde c.code c.offset pc f.start f.calls s) with
  | none =>
    have hir : iRules c f pc = none := by unfold iRules; rw [hv]; rfl
    have HIR := Lib.hid hir
    have HVV := Lib.hid hv
    clear hir hv
    go_enter Tryz.func26, Tryz.ntmps26
    go_wp2_with fail
    refine HV.out.mono ?_
    intro e w1 h1
    unfold VOut at h1
    rw [HVV.out] at h1
    obtain ⟨⟨t, x, rfl⟩, hf1⟩ := h1
    refine ⟨rfl, ?_⟩
    unfold EOut
    rw [HIR.out]
    exact ⟨⟨_, _, rfl⟩, hf1⟩
  | some s =>
    have hir : iRules c f pc = some s.1 := by unfold iRules; rw [hv]; rfl
    have HIR := Lib.hid hir
    have HVV := Lib.hid hv
    clear hir hv
    go_enter Tryz.func26, Tryz.ntmps26
    go_upto_region 2 with (go_at_call 45; go_must (refine HV.out.mono ?_); intro e w1 h1; unfold VOut at h1; rw [HVV.out] at h1; obtain ⟨fb, K, mb, ev, sv, qs, v, l, loc, off, rd, rfl, hret, hx⟩ := h1; have HX := Lib.hid hx; have HRT := Lib.hid hret; clear hx hret)
    have c15 : w1.cell? ⟨fb, 15, none⟩ = some .nilIface := HX.out.cell 15
    go_wp2_with fail
    go_ret2
    unfold EOut
    rw [HIR.out]
    exact ⟨_, _, _, _, _, _, _, _, _, _, _, s, rfl, rfl, HRT.out, HX.out⟩
end Go.Proofs.YtahohmdfllgedaaGreat
