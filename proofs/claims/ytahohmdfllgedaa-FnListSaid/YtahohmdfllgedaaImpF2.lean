/- impl.Frames. -/
import Derived.Test.YtahohmdfllgedaaImpF
namespace Go.Proofs.Ytahohmdfllgedaa
open Go.RowKit

set_option maxRecDepth 100000 in
set_option maxHeartbeats 20000000 in
theorem iFrames_any (a : Option Addr) (c : Nat) (D : List UInt8) (is : List Item) (w : World) (I : ItemsOk is D) (hs : Sl w (.slice a D.length c) (vbs D)) :
    Calls Try.prog 22 #[.slice a D.length c] w fun e w' => ∃ ab ae cb ce, e = .returned (.tuple #[.slice ab (fdes is).length cb, .slice ae (fdes is).length ce, .bool true]) ∧
      Sl w' (.slice ab (fdes is).length cb) (bvals ((fdes is).map (·.2))) ∧ Sl w' (.slice ae (fdes is).length ce) (evals ((fdes is).map (·.2))) ∧ Fr [] w w' := by
  have hmf : ∀ (fn : Fn) (first cap : Array Value) (w : World), (Instr.makeFunc fn first cap).run Try.prog w = .ok (.func fn first cap) w := fun _ _ _ _ => rfl
  have HI := Lib.hid I
  have Hs := Lib.hid hs
  have hl := I.hl
  clear I hs
  have hf0 : Fr [] w (((w.alloc (.cells #[.slice none 0 0] 37)).alloc (.cells #[.slice none 0 0] 37)).alloc (.cells #[.bool false] 4)) := (((Fr.refl _ _).alloc _).alloc _).alloc _
  have b0 : (((w.alloc (.cells #[.slice none 0 0] 37)).alloc (.cells #[.slice none 0 0] 37)).alloc (.cells #[.bool false] 4)).heap[w.heap.size]? = some (.cells #[.slice none 0 0] 37 (0, 0)) := blk_alloc (blk_alloc (blk_new _ _))
  have b1 : (((w.alloc (.cells #[.slice none 0 0] 37)).alloc (.cells #[.slice none 0 0] 37)).alloc (.cells #[.bool false] 4)).heap[w.heap.size + 1]? = some (.cells #[.slice none 0 0] 37 (0, 0)) := by
    have := blk_new (w.alloc (.cells #[.slice none 0 0] 37)) (.cells #[.slice none 0 0] 37)
    simp only [World.size_alloc] at this
    exact blk_alloc this
  have b2 : (((w.alloc (.cells #[.slice none 0 0] 37)).alloc (.cells #[.slice none 0 0] 37)).alloc (.cells #[.bool false] 4)).heap[w.heap.size + 1 + 1]? = some (.cells #[.bool false] 4 (0, 0)) := by
    have := blk_new ((w.alloc (.cells #[.slice none 0 0] 37)).alloc (.cells #[.slice none 0 0] 37)) (.cells #[.bool false] 4)
    simpa only [World.size_alloc] using this
  generalize hw0 : ((w.alloc (.cells #[.slice none 0 0] 37)).alloc (.cells #[.slice none 0 0] 37)).alloc (.cells #[.bool false] 4) = w0 at *
  have Hw0 := Lib.hid hw0
  have F0 := Lib.hid hf0
  have B0 := Lib.hid b0
  have B1 := Lib.hid b1
  have B2 := Lib.hid b2
  clear hw0 hf0 b0 b1 b2
  go_enter_defers Try.func22, Try.ntmps22
  go_wp2_with (go_at_call 35; go_must (rw [Hw0.out]; refine (Clone_any _ D _ (Hs.out.fr F0.out (by simp)) (by omega)).mono ?_))
  rintro e w1 ⟨a1, c1, rfl, ho1, hf1⟩
  have Ho1 := Lib.hid ho1
  have F1 := Lib.hid hf1
  clear ho1 hf1
  go_wp2_with (go_at_call 45; go_must (refine (Parse_any a1 c1 D is _ HI.out (own_sl Ho1.out) (fun g hg => (Ho1.out.lt g hg).2)).mono ?_))
  rintro e w2 ⟨ae, ce, ptrs, rfl, ho2, hl2, hfd2, hf2⟩
  have F2 : Hid (Fr [] w0 w2) := F1.out.then hf2
  have D0 := Lib.hid (F2.out.get B0.out (by simp))
  have D1 := Lib.hid (F2.out.get B1.out (by simp))
  have D2 := Lib.hid (F2.out.get B2.out (by simp))
  have Ho2 := Lib.hid ho2
  have Hl2 := Lib.hid hl2
  have Hfd2 := Lib.hid hfd2
  have hcap : ptrs.length ≤ 1000 := by rw [hl2]; exact HI.out.hn
  have hsz : w0.heap.size = w.heap.size + 3 := by rw [← Hw0.out]; simp
  have Hsz := Lib.hid hsz
  obtain ⟨n, hn⟩ : ∃ n, w.heap.size = n := ⟨_, rfl⟩
  have HVL : Hid (∀ g, (Value.slice a1 D.length c1).ownBlock = some g → g < w2.heap.size) := fun g hg => Nat.lt_of_lt_of_le (Ho1.out.lt g hg).2 hf2.size
  have HVN : Hid (∀ g, (Value.slice a1 D.length c1).ownBlock = some g → w0.heap.size ≤ g) := fun g hg => own_ge Ho1.out hg
  rw [hn] at D0 D1 D2 Hsz
  simp only [hn]
  have Hn := Lib.hid hn
  clear ho2 hl2 hfd2 hf2 hsz hn
  obtain ⟨m, hm⟩ : ∃ m, n + 1 = m := ⟨_, rfl⟩
  obtain ⟨r, hr⟩ : ∃ r, n + 1 + 1 = r := ⟨_, rfl⟩
  simp only [hr]
  simp only [hm]
  rw [hr] at D2
  rw [hm] at D1
  have Hm := Lib.hid hm
  have Hr := Lib.hid hr
  clear hm hr
  go_wp2
  have hX : ptrs.length = ((fdes is).map (·.2)).length := by rw [List.length_map]; exact Hl2.out
  obtain ⟨X, hXe⟩ : ∃ X, (fdes is).map (·.2) = X := ⟨_, rfl⟩
  rw [hXe] at hX
  have HXe := Lib.hid hXe
  have HX := Lib.hid hX
  have hnm : n ≠ m := by have := Hm.out; omega
  have Hnm := Lib.hid hnm
  clear hXe hX hnm
  go_loopw [22] (fun s wr => ∃ i ab ae' cb ce', i ≤ ptrs.length ∧ s = .int .i64 (i : Int) ∧ FL w2 wr X n m i ab ae' cb ce') (fun s _ => ptrs.length - (intOf s).toNat)
  case atStart => exact ⟨0, none, none, 0, 0, Nat.zero_le _, rfl, D0.out, D1.out, World.ownsRow_nil _ _ _ _, World.ownsRow_nil _ _ _ _, (fun g h => by cases h), Fr.refl _ _⟩
  case round =>
    obtain ⟨wo, rfl⟩ : ∃ wo : World, wo = wr := ⟨_, rfl⟩
    obtain ⟨i, ab, ae', cb, ce', hi, rfl, hL⟩ := hrel
    have HL := Lib.hid hL
    clear hL
    by_cases hit : i < ptrs.length
    case neg =>
      obtain rfl : i = ptrs.length := by omega
      clear hit hi
      have k0 := blk_cell HL.out.bn 0
      have k1 := blk_cell HL.out.bm 0
      have hb2 : wo.heap[r]? = some (.cells #[.bool false] 4 (0, 0)) := HL.out.fr.get D2.out (by have := Hm.out; have := Hr.out; simp; omega)
      have kr := blk_cell hb2 0
      have zn : wo.frozen? ⟨n, 0, none⟩ = false := blk_free HL.out.bn 0
      have zm : wo.frozen? ⟨m, 0, none⟩ = false := blk_free HL.out.bm 0
      have zr : wo.frozen? ⟨r, 0, none⟩ = false := blk_free hb2 0
      have hne1 : n ≠ r := by have := Hm.out; have := Hr.out; omega
      have hne2 : m ≠ r := by have := Hm.out; have := Hr.out; omega
      have e1 := setCell_same HL.out.bn
      have e2 := setCell_same HL.out.bm
      have e3 := setCell_same (w := wo.setCell ⟨r, 0, none⟩ (.bool true)) (blk_set_other HL.out.bn hne1)
      have e4 := setCell_same (w := wo.setCell ⟨r, 0, none⟩ (.bool true)) (blk_set_other HL.out.bm hne2)
      have kn : (wo.setCell ⟨r, 0, none⟩ (.bool true)).cell? ⟨n, 0, none⟩ = _ := blk_cell (blk_set_other HL.out.bn hne1) 0
      have km : (wo.setCell ⟨r, 0, none⟩ (.bool true)).cell? ⟨m, 0, none⟩ = _ := blk_cell (blk_set_other HL.out.bm hne2) 0
      have qn : (wo.setCell ⟨r, 0, none⟩ (.bool true)).frozen? ⟨n, 0, none⟩ = false := blk_free (blk_set_other HL.out.bn hne1) 0
      have qm : (wo.setCell ⟨r, 0, none⟩ (.bool true)).frozen? ⟨m, 0, none⟩ = false := blk_free (blk_set_other HL.out.bm hne2) 0
      have Hb2 := Lib.hid hb2
      have Hne1 := Lib.hid hne1
      have Hne2 := Lib.hid hne2
      simp only [List.size_toArray, List.length_cons, List.length_nil, Nat.zero_add, Nat.lt_add_one, getElem?_pos, List.getElem_toArray, List.getElem_cons_zero] at k0 k1 kr kn km
      clear hne1 hne2 hb2
      have kt : (wo.setCell ⟨r, 0, none⟩ (.bool true)).cell? ⟨r, 0, none⟩ = some (.bool true) := cell_of_one (one_setCell Hb2.out)
      have hF : Fr [] w (wo.setCell ⟨r, 0, none⟩ (.bool true)) := by
        have h1 : Fr [n, m] w0 wo := (F2.out.mono (by simp)).trans HL.out.fr (fun i h _ => h)
        have h2 : Fr [] w wo := (F0.out).trans h1 (fun i hi hlt => by have := Hn.out; have := Hm.out; simp at hi; omega)
        exact h2.setCell (.inr (by have := Hn.out; have := Hm.out; have := Hr.out; show w.heap.size ≤ r; omega)) _
      have hS1 : Sl (wo.setCell ⟨r, 0, none⟩ (.bool true)) (.slice ab ptrs.length cb) (bvals X) := by
        have := own_sl HL.out.ob
        rw [HX.out, List.take_length] at this
        rw [HX.out]
        refine this.fr ((Fr.refl [r] wo).setCell (.inl (by simp)) _) (fun g hg => ?_)
        have h1 := own_ge HL.out.ob (g := g) (by rw [HX.out]; exact hg)
        have h2 := lt_heap D2.out
        simp; omega
      have hS2 : Sl (wo.setCell ⟨r, 0, none⟩ (.bool true)) (.slice ae' ptrs.length ce') (evals X) := by
        have := own_sl HL.out.oe
        rw [HX.out, List.take_length] at this
        rw [HX.out]
        refine this.fr ((Fr.refl [r] wo).setCell (.inl (by simp)) _) (fun g hg => ?_)
        have h1 := own_ge HL.out.oe (g := g) (by rw [HX.out]; exact hg)
        have h2 := lt_heap D2.out
        simp; omega
      have HF := Lib.hid hF
      have HS1 := Lib.hid hS1
      have HS2 := Lib.hid hS2
      clear hF hS1 hS2
      go_wp2
      go_region
      all_goals
        go_wp2
        refine leaves_cons (f := 44) (args := #[.pointer (some ⟨n, 0, none⟩), .pointer (some ⟨m, 0, none⟩), .pointer (some ⟨r, 0, none⟩)]) (by simp) (by simp [go_sem]) ?_
        refine (iFrames1_idle ⟨n, 0, none⟩ ⟨m, 0, none⟩ ⟨r, 0, none⟩ _).mono ?_
        rintro e u' w'' ⟨rfl, rfl, rfl⟩
        refine ⟨.tuple #[.slice ab ptrs.length cb, .slice ae' ptrs.length ce', .bool true], by simp [results, Try.results22, go_sem, kn, km, kt], ab, ae', cb, ce', by rw [Hl2.out], ?_, ?_, HF.out.drew⟩
        · rw [HXe.out, ← Hl2.out]; exact HS1.out.fr (Fr.drew (Fr.refl [] _)) (by simp)
        · rw [HXe.out, ← Hl2.out]; exact HS2.out.fr (Fr.drew (Fr.refl [] _)) (by simp)
    case pos =>
      obtain ⟨g, cap, hv, -, hcap1, hcap2⟩ := own_some Ho2.out (by omega)
      simp only [Value.slice.injEq] at hv
      obtain ⟨rfl, -, rfl⟩ := hv
      unfold maxLen at hcap2
      obtain ⟨fb, hfb⟩ : ∃ fb, ptrs[i]? = some fb := ⟨_, List.getElem?_eq_getElem hit⟩
      obtain ⟨⟨c', x⟩, hx⟩ : ∃ y, (fdes is)[i]? = some y := ⟨_, List.getElem?_eq_getElem (by rw [← Hl2.out]; exact hit)⟩
      have hXi : X[i]? = some x := by rw [← HXe.out, List.getElem?_map, hx]; rfl
      have hgn : g ∉ [n, m] := by
        obtain ⟨cur, hcur⟩ := own_blk Ho2.out (g := g) rfl
        have e1 := blk_ne hcur D0.out (by decide); have e2 := blk_ne hcur D1.out (by decide); simp; exact ⟨e1, e2⟩
      have hrow : wo.cell? ⟨g, i, none⟩ = some (ptrV fb) := by
        have := Ho2.out.cells (g := g) rfl i (ptrV fb) (by simp [hfb])
        rw [Addr.add_lit, Nat.zero_add] at this
        exact HL.out.fr.cell this hgn
      have HAT : Hid (FdeAt wo (.slice a1 D.length c1) fb ordLE c' x) := fdes_get (Hfd2.out i fb c' x hfb hx) HL.out.fr D0.out D1.out (fun g' hg' => by
        have := HVN.out g' hg'; have := Hsz.out; have := Hm.out; simp; omega)
      have hfr : frB x = true := by
        have hmem : (c', x) ∈ fdes is := List.mem_of_getElem? hx
        obtain ⟨it, hit1, hit2⟩ := List.mem_filterMap.1 hmem
        obtain ⟨k, hk, rfl⟩ := List.getElem_of_mem hit1
        cases hik : is[k] with
        | cie c0 => rw [hik] at hit2; simp at hit2
        | fde n0 c0 x0 =>
          rw [hik] at hit2
          simp at hit2
          obtain ⟨rfl, rfl⟩ := hit2
          exact (HI.out.hf k n0 c0 x0 (by rw [List.getElem?_eq_getElem hk, hik])).1
      obtain ⟨-, hz1, hz2, -, -⟩ := fr_facts hfr
      have hil : i < X.length := by rw [← HX.out]; exact hit
      have hBs : bvals (X.take (i + 1)) = bvals (X.take i) ++ [.int .u64 (x.start : Int)] := by
        rw [List.take_succ_eq_append_getElem hil, bvals, List.map_append, (List.getElem?_eq_some_iff.1 hXi).2]; rfl
      have hEs : evals (X.take (i + 1)) = evals (X.take i) ++ [.int .u64 ((x.start + x.size : Nat) : Int)] := by
        rw [List.take_succ_eq_append_getElem hil, evals, List.map_append, (List.getElem?_eq_some_iff.1 hXi).2]; rfl
      have HBs := Lib.hid hBs
      have HEs := Lib.hid hEs
      clear hfb hx hXi hfr hBs hEs hil hgn
      obtain ⟨y, hy⟩ : ∃ y, x.start + x.size = y := ⟨_, rfl⟩
      rw [hy] at HEs
      have Hy := Lib.hid hy
      clear hy
      have hbn := HL.out.bn
      have hbm := HL.out.bm
      have kn0 : wo.cell? ⟨n, 0, none⟩ = some (.slice ab i cb) := cell_of_one hbn
      have km0 : wo.cell? ⟨m, 0, none⟩ = some (.slice ae' i ce') := cell_of_one hbm
      have kn1 : ∀ o, (wo.alloc o).cell? ⟨n, 0, none⟩ = some (.slice ab i cb) := fun o => ((Fr.refl [] wo).alloc o).cell kn0 (by simp)
      have km1 : ∀ o, (wo.alloc o).cell? ⟨m, 0, none⟩ = some (.slice ae' i ce') := fun o => ((Fr.refl [] wo).alloc o).cell km0 (by simp)
      have OB : Hid (∀ o, (wo.alloc o).ownsRow w2.heap.size 22 1 (.slice ab i cb) i (bvals (X.take i))) := fun o => HL.out.ob.alloc o
      have HSW : Hid (w2.heap.size ≤ wo.heap.size) := HL.out.fr.size
      have HNW : Hid (n < w2.heap.size ∧ m < w2.heap.size) := ⟨lt_heap D0.out, lt_heap D1.out⟩
      have HATF : Hid (∀ wA, Fr (Value.slice ab i cb).ownBlock.toList wo wA → FdeAt wA (.slice a1 D.length c1) fb ordLE c' x) := fun wA f => by
        obtain ⟨csf, hcsf⟩ := HAT.out.blk
        refine HAT.out.fr f (fun k cs t hk ht hmem => ?_) (fun g' hg' hmem => ?_)
        · obtain ⟨cur, hcur⟩ := own_blk HL.out.ob (by simpa using hmem)
          rcases ht with rfl | rfl
          · exact blk_ne hk hcur (by decide) rfl
          · exact blk_ne hcsf hcur (by decide) rfl
        · have h1 := HVL.out g' hg'
          have h2 := own_ge HL.out.ob (g := g') (by simpa using hmem)
          omega
      clear hbn hbm
      go_upto_block 1 with (fail)
      go_cut [] from 24 to 35 (fun wx => ∃ ab2 ae2 cb2 ce2, FL w2 wx X n m (i + 1) ab2 ae2 cb2 ce2)
      case first =>
        go_wp2
        refine wp_region_noPanic ?_
        go_region_law (first | (have _t := HA; refine step_app2 sliceU _ (by rfl) _ _ (by rfl) w2.heap.size _ i (evals (X.take i)) (by rfl) (OE.out _) (some ⟨_, 0, none⟩) 1 1 [.int .u64 (y : Int)] (by rfl) (by rfl) (fun h => by cases h) (news_blk (blk_new (wA.drewN _) _)) (by simp [Value.oneCell']) (by omega) (by decide) (by have := HSW2.out; simp; omega) ?_; intro a6 c6 wB ho6 hf6 hg6; have KF := Lib.hid (HL.out.done HNW.out.1 HNW.out.2 Hnm.out HA.out HGA.out HO5.out ((((Fr.refl _ wA).drewN _).alloc _).trans hf6 (fun k hk _ => hk)) (fun g hg => (hg6 g hg).imp id (fun h => by simp at h; omega)) (by rw [HEs.out]; exact ho6)); have HB6 : Hid (Fr (Value.slice ae' i ce').ownBlock.toList wA wB) := ((((Fr.refl _ wA).drewN _).alloc _).trans hf6 (fun k hk _ => hk)); have bnB : wB.heap[n]? = some (.cells #[.slice ab i cb] 37 (0, 0)) := HB6.out.get (HA.out.get HL.out.bn (HL.out.own_n HNW.out.1).1) (HL.out.own_n HNW.out.1).2; have bmB : wB.heap[m]? = some (.cells #[.slice ae' i ce'] 37 (0, 0)) := HB6.out.get (HA.out.get HL.out.bm (HL.out.own_n HNW.out.2).1) (HL.out.own_n HNW.out.2).2; have s1 := cell_of_one bnB; have s2 := cell_of_one bmB; have z1 : wB.frozen? ⟨n, 0, none⟩ = false := blk_free bnB 0; have z2 : wB.frozen? ⟨m, 0, none⟩ = false := blk_free bmB 0; have s3 : ∀ u, (wB.setCell ⟨n, 0, none⟩ u).cell? ⟨m, 0, none⟩ = some (.slice ae' i ce') := (fun u => cell_of_one (blk_set_other bmB Hnm.out.symm)); have s4 : ∀ u, (wB.setCell ⟨m, 0, none⟩ u).cell? ⟨n, 0, none⟩ = some (.slice ab i cb) := (fun u => cell_of_one (blk_set_other bnB Hnm.out)); have z3 : ∀ u, (wB.setCell ⟨n, 0, none⟩ u).frozen? ⟨m, 0, none⟩ = false := (fun u => blk_free (blk_set_other bmB Hnm.out.symm) 0); have z4 : ∀ u, (wB.setCell ⟨m, 0, none⟩ u).frozen? ⟨n, 0, none⟩ = false := (fun u => blk_free (blk_set_other bnB Hnm.out) 0); clear ho6 hf6 hg6 bnB bmB)
                             | (refine step_app2 sliceU _ (by rfl) _ _ (by rfl) w2.heap.size _ i (bvals (X.take i)) (by rfl) (OB.out _) (some ⟨_, 0, none⟩) 1 1 [.int .u64 (x.start : Int)] (by rfl) (by rfl) (fun h => by cases h) (news_blk (blk_new wo _)) (by simp [Value.oneCell']) (by omega) (by decide) (by have := HSW.out; simp; omega) ?_; intro a5 c5 wA ho5 hf5 hg5; have HO5 : Hid (wA.ownsRow w2.heap.size 22 1 (.slice a5 (i + 1) c5) (i + 1) (bvals (X.take (i + 1)))) := (by rw [HBs.out]; exact ho5); have HA : Hid (Fr (Value.slice ab i cb).ownBlock.toList wo wA) := ((Fr.refl _ wo).alloc _).drew.trans hf5 (fun k hk _ => hk); have HGA : Hid (∀ g, (Value.slice a5 (i + 1) c5).ownBlock = some g → (Value.slice ab i cb).ownBlock = some g ∨ wo.heap.size ≤ g) := (fun g hg => (hg5 g hg).imp id (fun h => by simp at h; omega)); have HSW2 : Hid (w2.heap.size ≤ wA.heap.size) := Nat.le_trans HSW.out HA.out.size; have knA : wA.cell? ⟨n, 0, none⟩ = some (.slice ab i cb) := HA.out.cell kn0 (HL.out.own_n HNW.out.1).1; have kmA : wA.cell? ⟨m, 0, none⟩ = some (.slice ae' i ce') := HA.out.cell km0 (HL.out.own_n HNW.out.2).1; have kmA1 : ∀ k o, ((wA.drewN k).alloc o).cell? ⟨m, 0, none⟩ = some (.slice ae' i ce') := (fun k o => (((Fr.refl [] wA).drewN k).alloc o).cell kmA (by simp)); have HATA : Hid (FdeAt wA (.slice a1 D.length c1) fb ordLE c' x) := HATF.out _ HA.out; have OE : Hid (∀ o, (wA.alloc o).ownsRow w2.heap.size 22 1 (.slice ae' i ce') i (evals (X.take i))) := (fun o => own_fr HL.out.oe (HA.out.alloc o) (fun g hg hm => HL.out.ds g (by simpa using hm) hg)); clear ho5 hf5 hg5)
                             | (have _t := HA; go_simp; go_at_call 47; go_must (refine (fdeEnd_any _ _ fb _ c' x HATA.out hz2 hz1).mono ?_); rw [Hy.out]; rintro e wz ⟨rfl, kz, rfl⟩)
                             | (go_simp; go_at_call 46; go_must (refine (fdeBegin_any _ _ fb _ c' x (HAT.out.idle (Fr.drew (Fr.refl [] wo)))).mono ?_); rintro e wz ⟨rfl, rfl⟩))
        all_goals
          refine NoPanic.normal ?_
          go_wp2_with fail
          go_meet
          first | exact ⟨_, _, _, _, KF.out.1⟩ | exact ⟨_, _, _, _, KF.out.2⟩
      case rest =>
        obtain ⟨ab2, ae2, cb2, ce2, hL2⟩ := hcut
        have HL2 := Lib.hid hL2
        clear hL2
        go_wp2
        go_roundw
        case rel => exact ⟨i + 1, ab2, ae2, cb2, ce2, by omega, by go_num, HL2.out⟩
        case measure => simp [intOf]; omega
end Go.Proofs.Ytahohmdfllgedaa
