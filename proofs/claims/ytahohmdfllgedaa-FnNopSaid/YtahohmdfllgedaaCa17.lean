/- impl.Evaluate. -/
import Derived.Test.YtahohmdfllgedaaCa16
set_option linter.unusedVariables false
set_option linter.unusedSimpArgs false
namespace Go.Proofs.Ytahohmdfllgedaa
open Go.RowKit

set_option maxRecDepth 100000 in
set_option maxHeartbeats 40000000 in
theorem Evaluate_any (rv mv pv : Value) (x : LWorld) (l : List LCall) (code : List UInt8) (o : Out) (w0 : World) (hx : RWorld w0 rv mv x) (hrn : x.regs.length ≤ 100) (hmn : x.mem.length ≤ 10000) (hat : x.at_ + x.mem.length < 18446744073709551616)
    (hp : Sl w0 pv (vbs code)) (hclen : code.length ≤ 100000) (hc : code = exprL l) (ho : evalS x l code.length = o) (hnl : o ≠ .left)
    (hkn : ∀ c ∈ l, knownB c.op c.a c.data.length = true)
    (hop : ∀ D : CxD, CxS D x → D.code = exprL l → D.cfa = x.cfa → D.base = x.base → ∀ k (h : k < l.length), OpGood D x l k l[k])
    (hpk : ∀ s, o = .fine s → (resP s).length ≤ 1000000 ∧ ∀ p ∈ resP s, (p.kind = 0 ∨ p.kind = 1 ∨ p.kind = 2) ∧ p.bytes.length ≤ 1000000) :
    Calls Try.prog 29 #[worldV rv mv x, pv] w0 (IvP x w0 o) := by
  have hmf : ∀ (fn : Fn) (first cap : Array Value) (w : World), (Instr.makeFunc fn first cap).run Try.prog w = .ok (.func fn first cap) w := fun _ _ _ _ => rfl
  obtain ⟨ra, rc, hrv, hrm⟩ := sl_len hx.rg
  obtain ⟨ma, mc, hmv, hmm⟩ := sl_len hx.mm
  obtain ⟨pa, pc, hpv, hpm⟩ := sl_len hp
  simp only [List.length_map] at hrv hmv hpv hrm hmm hpm
  have hB : EvB w0 ((((w0.alloc (.cells #[rv, vi x.base, vi x.cfa, .int .u64 (x.at_ : Int), mv] 64)).alloc (.cells #[vi 0] 2)).alloc (.cells #[.slice none 0 0] 61)).alloc (.cells #[.bool false] 4)) rv mv x (vi 0) (.slice none 0 0) (.bool false) :=
    evB_new w0 _ _ x
  subst hrv hmv hpv
  have HB := Lib.hid hB
  have Hx := Lib.hid hx
  have Hp := Lib.hid hp
  have Hc := Lib.hid hc
  have Ho := Lib.hid ho
  have Hnl := Lib.hid hnl
  have Hkn := Lib.hid hkn
  have Hop := Lib.hid hop
  have Hpk := Lib.hid hpk
  have Hrn := Lib.hid hrn
  have Hsz := Lib.hid (And.intro hmn (And.intro hat hclen))
  clear hB hx hp hc ho hnl hkn hop hpk hmn hat hclen
  go_enter_defers Try.func29, Try.ntmps29
  go_wp2_with fail
  go_loopw [7, 21] (fun t7 t21 wr => ∃ k a c, t7 = .slice a k c ∧ t21 = vi ((k : Nat) : Int) ∧ EvB w0 wr (.slice ra x.regs.length rc) (.slice ma x.mem.length mc) x (vi 0) (.slice none 0 0) (.bool false) ∧ RgR w0 wr x k (.slice a k c)) (fun _ i _ => x.regs.length - (intOf i).toNat)
  case atStart => exact ⟨0, none, 0, rfl, rfl, HB.out, Nat.zero_le _, [], World.ownsRow_nil _ _ _ _, fun i h => by omega⟩
  case round =>
    obtain ⟨k, a, c, rfl, rfl, hb, hr⟩ := hrel
    have hk := hr.le
    have HB1 := Lib.hid hb
    have HR1 := Lib.hid hr
    clear hb hr HB
    by_cases hlt : k < x.regs.length
    · as_aux_lemma =>
        obtain ⟨g, o1, c1, hrv, hcs⟩ := regs_at Hx.out (by omega)
        simp only [Value.slice.injEq, true_and] at hrv
        obtain ⟨rfl, rfl⟩ := hrv
        have cx : wr.cell? ⟨g, o1 + k, none⟩ = some (.int .u64 ((x.regs[k] : Nat) : Int)) := HB1.out.fr.cell (hcs k hlt) (by simp)
        have hgk : x.regs.getD k 0 = x.regs[k] := by simp [hlt]
        have Hgk := Lib.hid hgk
        clear hcs hgk
        generalize x.regs[k] = y at *
        obtain ⟨ps, ho1, hps⟩ := HR1.out.own
        have Ho1 : Hid (((wr.alloc (.cells #[.int .u64 (y : Int), .slice none 0 0] 161)).alloc (.cells #[.pointer (some ⟨wr.heap.size, 0, none⟩)] 116)).ownsRow w0.heap.size 116 1 (.slice a k c) k ps) := own_fr ho1 (((Fr.refl [] wr).alloc _).alloc _) (by simp)
        have Hps := Lib.hid hps
        have hs0 := HB1.out.fr.size
        have Hn1 : Hid (∀ ad : Addr, some ⟨wr.heap.size + 1, 0, none⟩ = some ad → ∀ j u, [Value.pointer (some ⟨wr.heap.size, 0, none⟩)][j]? = some u → ((wr.alloc (.cells #[.int .u64 (y : Int), .slice none 0 0] 161)).alloc (.cells #[.pointer (some ⟨wr.heap.size, 0, none⟩)] 116)).cell? (ad.add j) = some u) := by
          have e : (wr.alloc (.cells #[.int .u64 (y : Int), .slice none 0 0] 161)).heap.size = wr.heap.size + 1 := World.size_alloc _ _
          have h := news_one rfl (.pointer (some ⟨wr.heap.size, 0, none⟩)) 116 (w := wr.alloc (.cells #[.int .u64 (y : Int), .slice none 0 0] 161))
          rw [e] at h; exact h
        clear ho1 hps
        go_wp2_with (first | (go_at_call 58; go_must (refine (DRegFrom_any y _).mono ?_); rintro e w' ⟨rfl, rfl⟩) | (at_builtin; go_must (refine wpList_app4 slicePD _ rfl _ _ rfl w0.heap.size _ k ps rfl Ho1.out (some ⟨wr.heap.size + 1, 0, none⟩) 1 1 [.pointer (some ⟨wr.heap.size, 0, none⟩)] rfl rfl (fun h => by cases h) Hn1.out (by simp [Value.oneCell']) (by omega) (by decide) (by simp; omega) ?_)))
        intro a' c' w1 ho2 hf2 hg2 ht2
        have Ho2 := Lib.hid ho2
        have Hf2 := Lib.hid hf2
        have Ht2 := Lib.hid ht2
        clear ho2 hf2 hg2 ht2 cx
        go_wp2
        go_roundw
        case rel =>
          have ht : FrT [116] wr w1 := (((FrT.refl _ _).alloc _).alloc _).trans Ht2.out
          have hf : Fr [] w0 w1 := ((HB1.out.fr.alloc _).alloc _).app Ho1.out (Nat.le_refl _) Hf2.out
          refine ⟨k + 1, a', c', rfl, by go_num, HB1.out.frT ht hf (by decide) (by decide) (by decide) (by decide), hlt, _, Ho2.out, fun i hi => ?_⟩
          have hpl : ps.length = k := by simpa using Ho1.out.1
          by_cases hik : i < k
          · obtain ⟨b, h5, h6⟩ := Hps.out i hik
            exact ⟨b, by rw [List.getElem?_append_left (by omega)]; exact h5, ht.get h6 (by decide)⟩
          · obtain rfl : i = k := by omega
            refine ⟨wr.heap.size, by rw [List.getElem?_append_right (by omega), hpl]; simp, ?_⟩
            rw [Hgk.out]
            exact Ht2.out.get (blk_alloc (blk_new wr _)) (by decide)
        case measure => simp [intOf]; omega
    · obtain rfl : k = x.regs.length := by omega
      clear hlt hk
      go_upto_region 9 with (go_at_call 59; go_must (refine (NewDRegs_any _ _ _ _).mono ?_); rintro e w' ⟨rfl, rfl⟩)
      have hdr := blk_new wr (.cells #[.int .u64 0, vi 0, vi 0, vi 0, .slice a x.regs.length c, .iface 95 (.agg #[]), .int .u64 16, .int .u64 7, .int .u64 6, .int .u64 0, .nilFunc, .nilIface, .nilFunc] 125)
      have hf1 := (Fr.refl [] wr).alloc (.cells #[.int .u64 0, vi 0, vi 0, vi 0, .slice a x.regs.length c, .iface 95 (.agg #[]), .int .u64 16, .int .u64 7, .int .u64 6, .int .u64 0, .nilFunc, .nilIface, .nilFunc] 125)
      have hb2 := HB1.out.call hf1
      have hr2 := HR1.out.frT (T := []) (.of0 hf1) (by simp) (by simp)
      have hge : w0.heap.size + 4 ≤ wr.heap.size := by have := lt_heap HB1.out.fb; omega
      generalize (wr.alloc (.cells #[.int .u64 0, vi 0, vi 0, vi 0, .slice a x.regs.length c, .iface 95 (.agg #[]), .int .u64 16, .int .u64 7, .int .u64 6, .int .u64 0, .nilFunc, .nilIface, .nilFunc] 125)) = w2 at *
      generalize wr.heap.size = db at *
      have HB2 := Lib.hid hb2
      have HR2 := Lib.hid hr2
      have Hdr := Lib.hid hdr
      have d1 : w2.cell? ⟨db, 1, none⟩ = some (vi 0) := blk_cell hdr 1
      have d2 : w2.cell? ⟨db, 2, none⟩ = some (vi 0) := blk_cell hdr 2
      have z1 := blk_free hdr 1
      have z2 := blk_free hdr 2
      have x1 : w2.cell? ⟨w0.heap.size, 1, none⟩ = some (vi x.base) := blk_cell hb2.wb 1
      have x2 : w2.cell? ⟨w0.heap.size, 2, none⟩ = some (vi x.cfa) := blk_cell hb2.wb 2
      have n1 : db ≠ w0.heap.size := by omega
      have n2 : w0.heap.size ≠ db := by omega
      clear hf1 hb2 hr2 hdr HB1 HR1
      go_region
      have ft3 : FrT [125] w2 ((w2.setCell ⟨db, 1, none⟩ (vi x.cfa)).setCell ⟨db, 2, none⟩ (vi x.base)).drew := (((FrT.refl _ _).setCell Hdr.out (by simp) (vi x.cfa)).setCell (blk_set Hdr.out 1 (vi x.cfa)) (by simp) (vi x.base)).drew
      have ff3 : Fr [] w0 ((w2.setCell ⟨db, 1, none⟩ (vi x.cfa)).setCell ⟨db, 2, none⟩ (vi x.base)).drew := ((HB2.out.fr.setCell (.inr (by show w0.heap.size ≤ db; omega)) _).setCell (.inr (by show w0.heap.size ≤ db; omega)) _).drew
      have hd3 : ((w2.setCell ⟨db, 1, none⟩ (vi x.cfa)).setCell ⟨db, 2, none⟩ (vi x.base)).drew.heap[db]? = some (.cells #[.int .u64 0, vi x.cfa, vi x.base, vi 0, .slice a x.regs.length c, .iface 95 (.agg #[]), .int .u64 16, .int .u64 7, .int .u64 6, .int .u64 0, .nilFunc, .nilIface, .nilFunc] 125 (0, 0)) := blk_set (blk_set Hdr.out 1 (vi x.cfa)) 2 (vi x.base)
      have hb3 := HB2.out.frT ft3 ff3 (by decide) (by decide) (by decide) (by decide)
      have hr3 := HR2.out.frT ft3 (by decide) (by decide)
      generalize ((w2.setCell ⟨db, 1, none⟩ (vi x.cfa)).setCell ⟨db, 2, none⟩ (vi x.base)).drew = w3 at *
      have HB3 := Lib.hid hb3
      have HR3 := Lib.hid hr3
      have Hd3 := Lib.hid hd3
      have x4 : w3.cell? ⟨w0.heap.size, 4, none⟩ = some (.slice ma x.mem.length mc) := blk_cell hb3.wb 4
      clear hb3 hr3 hd3 ft3 ff3 HB2 HR2 Hdr d1 d2 z1 z2 x1 x2
      go_upto_region 12 with (go_at_call 35; go_must (refine (Clone_any _ x.mem _ (Hx.out.mm.fr HB3.out.fr (by simp)) (by have := Hsz.out.1; omega)).mono ?_); rintro e w4 ⟨a4, c4, rfl, ho4, hf4⟩; have Ho4 := Lib.hid ho4; have Hf4 := Lib.hid hf4; clear ho4 hf4)
      have hf5 : Fr [] w3 (w4.alloc (.cells #[.slice a4 x.mem.length c4] 23)) := Hf4.out.alloc _
      have hmb := blk_new w4 (.cells #[.slice a4 x.mem.length c4] 23)
      have hsm : Sl (w4.alloc (.cells #[.slice a4 x.mem.length c4] 23)) (.slice a4 x.mem.length c4) (vbs x.mem) := Sl.fr (own_sl Ho4.out) ((Fr.refl [] _).alloc _) (by simp)
      have hb5 := HB3.out.call hf5
      have hr5 := (HR3.out.frT (T := []) (.of0 hf5) (by simp) (by simp)).regs
      have hd5 := hf5.get Hd3.out (by simp)
      generalize (w4.alloc (.cells #[.slice a4 x.mem.length c4] 23)) = w5 at *
      generalize w4.heap.size = mb at *
      have HB5 := Lib.hid hb5
      have HR5 := Lib.hid hr5
      have Hd5 := Lib.hid hd5
      have Hmb := Lib.hid hmb
      have Hsm := Lib.hid hsm
      obtain ⟨e0, e1, e2, e3, e4, e5, e6, e7, e8, e9, e10, e11, e12⟩ := dr_cells hd5
      clear hf5 hmb hsm hb5 hr5 hd5 Ho4 Hf4 HB3 HR3 Hd3 x4
      go_cut [13, 14] from 50 to 59 (fun s13 s14 wx => EvX w0 (.slice ra x.regs.length rc) (.slice ma x.mem.length mc) x o s13 s14 wx)
      case first =>
        as_aux_lemma =>
          refine wp_region_keep (by kernel_rfl) [{ target := .fn (.func 57) #[.pointer (some ⟨w0.heap.size + 1, 0, none⟩), .pointer (some ⟨w0.heap.size + 1 + 1, 0, none⟩), .pointer (some ⟨w0.heap.size + 1 + 1 + 1, 0, none⟩)], args := #[] }]
            (fun ch w => (∃ t u, ch = [{ v := .iface t u, recovered := false }]) ∧ o = .bad ∧ EvB w0 w (.slice ra x.regs.length rc) (.slice ma x.mem.length mc) x (vi 0) (.slice none 0 0) (.bool false)) [4, 5, 6] (by decide) ?_ ?_
          · rintro ch a' wx ⟨⟨t, u, rfl⟩, hob, hbx⟩ hdef hk
            have k4 := hk 4 (by simp)
            have k5 := hk 5 (by simp)
            have k6 := hk 6 (by simp)
            show Leaves Try.prog _ a'.tmps _ a'.defers (.panicking _) wx
            rw [hdef]
            refine leaves_cons (f := 57) (args := #[.pointer (some ⟨w0.heap.size + 1, 0, none⟩), .pointer (some ⟨w0.heap.size + 1 + 1, 0, none⟩), .pointer (some ⟨w0.heap.size + 1 + 1 + 1, 0, none⟩)]) (by simp) (by simp [go_sem]) ?_
            refine (catch_panicking _ _ _ _ _ _ _ _ _ hbx.vb hbx.pb hbx.fb).mono ?_
            rintro e u' w'' ⟨rfl, rfl, rfl⟩
            simp only [Leaves, settle, List.dropWhile]
            have hbe := ((hbx.setV (vi 0)).setP (.slice none 0 0)).setF (.bool false)
            exact ⟨_, hbe.res _ (k4.trans rfl) (k5.trans rfl) (k6.trans rfl), hbe.fr, by rw [hob]⟩
          refine wpAny_take (i := 0) (v := ?_) rfl (by kernel_rfl) (by kernel_rfl) (by kernel_rfl) (fun _ _ _ h => h) (Or.inl ⟨by kernel_rfl, ?_⟩) ?_
          rotate_left
          · (intro _; go_simp; try with_reducible rfl)
          refine wpAny_take (i := 1) (v := ?_) rfl (by kernel_rfl) (by kernel_rfl) (by kernel_rfl) (fun _ _ _ h => h) (Or.inl ⟨by kernel_rfl, ?_⟩) ?_
          rotate_left
          · (intro _; go_simp; try with_reducible rfl)
          refine wpAny_take (i := 3) (v := ?_) rfl (by kernel_rfl) (by kernel_rfl) (by kernel_rfl) (fun _ _ _ h => h) (Or.inl ⟨by kernel_rfl, ?_⟩) ?_
          rotate_left
          · (intro _; go_simp; try with_reducible rfl)
          refine wpAny_take (i := 5) (v := ?_) rfl (by kernel_rfl) (by kernel_rfl) (by kernel_rfl) (fun _ _ _ h => h) (Or.inl ⟨by kernel_rfl, ?_⟩) ?_
          rotate_left
          · (intro _; go_simp; try with_reducible rfl)
          refine wpAny_ready (rs := [2, 4]) (by kernel_rfl) (by simp) ?_
          refine AllReady.cons rfl (fun K hK => ?_) ?_
          · as_aux_lemma =>
              go_simp
              refine hK _ _ ?_; clear hK K
              refine wpAny_ready (rs := [4]) (by kernel_rfl) (by simp) ?_
              refine AllReady.cons rfl (fun K hK => ?_) AllReady.nil
              go_simp
              refine (Clone_any _ code _ (Hp.out.fr (bs := []) (HB5.out.fr.drew) (by simp)) (by have := Hsz.out.2.2; omega)).mono ?_
              rintro e w6 ⟨a6, c6, rfl, ho6, hf6⟩
              have Ho6 := Lib.hid ho6
              have Hf6 := Lib.hid hf6
              obtain ⟨g0, g1, g2, g3, g4, g5, g6, g7, g8, g9, g10, g11, g12⟩ := dr_cells (hf6.get Hd5.out (by simp))
              clear ho6 hf6
              refine hK _ _ ?_; clear hK K
              have hW := Lib.hid (HB5.out.call (Hf6.out.drew0))
              have hCx : CxS { W := w6, code := code, pv := .slice a6 code.length c6, rgv := .slice a x.regs.length c, cfa := x.cfa, base := x.base, wb := w0.heap.size, mb := mb, mv := .slice a4 x.mem.length c4 } x :=
                cxs_mk (HB5.out) Hf6.out.drew0 Ho6.out Hsz.out.2.2 Hrn.out HR5.out Hx.out.rl Hmb.out Hsm.out Hsz.out.1 Hsz.out.2.1
              refine wpAny_ready (rs := [6]) (by kernel_rfl) (by simp) ?_
              refine AllReady.cons rfl (fun K hK => ?_) AllReady.nil
              go_simp
              refine (Execute_any { W := w6, code := code, pv := .slice a6 code.length c6, rgv := .slice a x.regs.length c, cfa := x.cfa, base := x.base, wb := w0.heap.size, mb := mb, mv := .slice a4 x.mem.length c4 } x l o hCx Hc.out Ho.out Hnl.out Hkn.out (fun D hS h1 h2 h3 => Hop.out D hS h1 h2 h3) Hx.out.b2).mono ?_
              rintro e w7 h7
              rcases h7.shape with ⟨t, u, rfl, hob, hf7⟩ | ⟨v1, s13, s14, rfl, hf7, hX⟩
              · exact ⟨rfl, ⟨t, u, rfl⟩, hob, hW.out.call hf7⟩
              · have HB7 := Lib.hid (hW.out.call hf7)
                have HX := Lib.hid hX
                have c1 : w7.cell? ⟨w0.heap.size + 1, 0, none⟩ = some (vi 0) := blk_cell HB7.out.vb 0
                have z1 := blk_free HB7.out.vb 0
                clear hf7 hX h7
                refine hK _ _ ?_; clear hK K
                refine wpAny_take (i := 7) (v := ?_) rfl (by kernel_rfl) (by kernel_rfl) (by kernel_rfl) (fun _ _ _ h => h) (Or.inl ⟨by kernel_rfl, ?_⟩) ?_
                rotate_left
                · (intro _; go_simp; try with_reducible rfl)
                refine wpAny_take (i := 8) (v := ?_) rfl (by kernel_rfl) (by kernel_rfl) (by kernel_rfl) (fun _ _ _ h => h) (Or.inl ⟨by kernel_rfl, ?_⟩) ?_
                rotate_left
                · (intro _; go_simp; try with_reducible rfl)
                refine wpAny_take (i := 9) (v := ?_) rfl (by kernel_rfl) (by kernel_rfl) (by kernel_rfl) (fun _ _ _ h => h) (Or.inl ⟨by kernel_rfl, ?_⟩) ?_
                rotate_left
                · (intro _; go_simp; try with_reducible rfl)
                refine wpAny_take (i := 10) (v := ?_) rfl (by kernel_rfl) (by kernel_rfl) (by kernel_rfl) (fun _ _ _ h => h) (Or.inl ⟨by kernel_rfl, ?_⟩) ?_
                rotate_left
                · (intro _; go_simp; try with_reducible rfl)
                refine wpAny_ready (rs := [11]) (by kernel_rfl) (by simp) ?_
                refine AllReady.cons rfl (fun K hK => ?_) AllReady.nil
                go_simp
                refine hK _ _ ?_; clear hK K
                refine wpAny_take (i := 12) (v := ?_) rfl (by kernel_rfl) (by kernel_rfl) (by kernel_rfl) (fun _ _ _ h => h) (Or.inl ⟨by kernel_rfl, ?_⟩) ?_
                rotate_left
                · (intro _; go_simp; try with_reducible rfl)
                refine wpAny_take (i := 13) (v := ?_) rfl (by kernel_rfl) (by kernel_rfl) (by kernel_rfl) (fun _ _ _ h => h) (Or.inl ⟨by kernel_rfl, ?_⟩) ?_
                rotate_left
                · (intro _; go_simp; try with_reducible rfl)
                refine wpAny_done (by kernel_rfl) ?_ _
                simp only [PanG]
                go_wp2_with fail
                go_meet
                exact HX.out.toX HB7.out (Nat.le_trans HB5.out.fr.size Hf6.out.drew0.size)
          · refine AllReady.cons rfl (fun K hK => ?_) AllReady.nil
            as_aux_lemma =>
              go_simp
              refine (Clone_any _ code _ (Hp.out.fr (bs := []) (HB5.out.fr.drew) (by simp)) (by have := Hsz.out.2.2; omega)).mono ?_
              rintro e w6 ⟨a6, c6, rfl, ho6, hf6⟩
              have Ho6 := Lib.hid ho6
              have Hf6 := Lib.hid hf6
              obtain ⟨g0, g1, g2, g3, g4, g5, g6, g7, g8, g9, g10, g11, g12⟩ := dr_cells (hf6.get Hd5.out (by simp))
              clear ho6 hf6
              refine hK _ _ ?_; clear hK K
              refine wpAny_ready (rs := [2]) (by kernel_rfl) (by simp) ?_
              refine AllReady.cons rfl (fun K hK => ?_) AllReady.nil
              go_simp
              refine hK _ _ ?_; clear hK K
              have hW := Lib.hid (HB5.out.call (Hf6.out.drew0))
              have hCx : CxS { W := w6, code := code, pv := .slice a6 code.length c6, rgv := .slice a x.regs.length c, cfa := x.cfa, base := x.base, wb := w0.heap.size, mb := mb, mv := .slice a4 x.mem.length c4 } x :=
                cxs_mk (HB5.out) Hf6.out.drew0 Ho6.out Hsz.out.2.2 Hrn.out HR5.out Hx.out.rl Hmb.out Hsm.out Hsz.out.1 Hsz.out.2.1
              refine wpAny_ready (rs := [6]) (by kernel_rfl) (by simp) ?_
              refine AllReady.cons rfl (fun K hK => ?_) AllReady.nil
              go_simp
              refine (Execute_any { W := w6, code := code, pv := .slice a6 code.length c6, rgv := .slice a x.regs.length c, cfa := x.cfa, base := x.base, wb := w0.heap.size, mb := mb, mv := .slice a4 x.mem.length c4 } x l o hCx Hc.out Ho.out Hnl.out Hkn.out (fun D hS h1 h2 h3 => Hop.out D hS h1 h2 h3) Hx.out.b2).mono ?_
              rintro e w7 h7
              rcases h7.shape with ⟨t, u, rfl, hob, hf7⟩ | ⟨v1, s13, s14, rfl, hf7, hX⟩
              · exact ⟨rfl, ⟨t, u, rfl⟩, hob, hW.out.call hf7⟩
              · have HB7 := Lib.hid (hW.out.call hf7)
                have HX := Lib.hid hX
                have c1 : w7.cell? ⟨w0.heap.size + 1, 0, none⟩ = some (vi 0) := blk_cell HB7.out.vb 0
                have z1 := blk_free HB7.out.vb 0
                clear hf7 hX h7
                refine hK _ _ ?_; clear hK K
                refine wpAny_take (i := 7) (v := ?_) rfl (by kernel_rfl) (by kernel_rfl) (by kernel_rfl) (fun _ _ _ h => h) (Or.inl ⟨by kernel_rfl, ?_⟩) ?_
                rotate_left
                · (intro _; go_simp; try with_reducible rfl)
                refine wpAny_take (i := 8) (v := ?_) rfl (by kernel_rfl) (by kernel_rfl) (by kernel_rfl) (fun _ _ _ h => h) (Or.inl ⟨by kernel_rfl, ?_⟩) ?_
                rotate_left
                · (intro _; go_simp; try with_reducible rfl)
                refine wpAny_take (i := 9) (v := ?_) rfl (by kernel_rfl) (by kernel_rfl) (by kernel_rfl) (fun _ _ _ h => h) (Or.inl ⟨by kernel_rfl, ?_⟩) ?_
                rotate_left
                · (intro _; go_simp; try with_reducible rfl)
                refine wpAny_take (i := 10) (v := ?_) rfl (by kernel_rfl) (by kernel_rfl) (by kernel_rfl) (fun _ _ _ h => h) (Or.inl ⟨by kernel_rfl, ?_⟩) ?_
                rotate_left
                · (intro _; go_simp; try with_reducible rfl)
                refine wpAny_ready (rs := [11]) (by kernel_rfl) (by simp) ?_
                refine AllReady.cons rfl (fun K hK => ?_) AllReady.nil
                go_simp
                refine hK _ _ ?_; clear hK K
                refine wpAny_take (i := 12) (v := ?_) rfl (by kernel_rfl) (by kernel_rfl) (by kernel_rfl) (fun _ _ _ h => h) (Or.inl ⟨by kernel_rfl, ?_⟩) ?_
                rotate_left
                · (intro _; go_simp; try with_reducible rfl)
                refine wpAny_take (i := 13) (v := ?_) rfl (by kernel_rfl) (by kernel_rfl) (by kernel_rfl) (fun _ _ _ h => h) (Or.inl ⟨by kernel_rfl, ?_⟩) ?_
                rotate_left
                · (intro _; go_simp; try with_reducible rfl)
                refine wpAny_done (by kernel_rfl) ?_ _
                simp only [PanG]
                go_wp2_with fail
                go_meet
                exact HX.out.toX HB7.out (Nat.le_trans HB5.out.fr.size Hf6.out.drew0.size)
      case rest =>
        refine use_tail (c := evTail) (Q := bodyPostD Try.prog Try.f29 (IvP x w0 o)) (by assumption) ?_
        exact Ev_tail x o w0 wc ra ma rc mc Hpk.out _ _ _ _ _ _ _ _ _ _ _ _ _ _ _ _ _ _ _ _ _ _ _ _ _ _ _ _ _ _ _ _ _ _ _ _ _ _ _ _ _ _ _ _ _ _ _ _ _ _ _ _ _ _ _ _ _ _ _ _ _ _ _ _ _ _ _ _ _ _ _ _ _ _ _ _ _ _ _ _ _ _ hcut
end Go.Proofs.Ytahohmdfllgedaa
