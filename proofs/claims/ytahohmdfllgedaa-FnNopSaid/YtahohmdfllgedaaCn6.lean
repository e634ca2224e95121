/- laws.FnNop: the walk. Printed by gen_eno.py. -/
import Derived.Test.YtahohmdfllgedaaCn5
set_option linter.unusedVariables false
set_option linter.unusedSimpArgs false
namespace Go.Proofs.Ytahohmdfllgedaa
open Go.RowKit

set_option maxRecDepth 100000 in
set_option maxHeartbeats 60000000 in
theorem FnN_M (v rv mv : Value) (t : Nat) (l : List LCall) (x : LWorld) (w : World) (hl : RSl 4 (RCall w) w v l) (hx : RWorld w rv mv x) (h7 : fits3 l = true) (h9 : fits9 x = true) (htn : t ≤ l.length) (hm : l.length ≤ 200) (hs : smallB x = true) (he : exprOk l = true) :
    Calls Try.prog 8 #[v, vi ((t : Nat) : Int), worldV rv mv x] w fun e w' => e = .returned (.bool true) ∧ Fr [] w w' := by
  have ht : ¬ (t : Int) < 0 := by omega
  have hn : ¬ (l.length : Int) < (t : Int) := by omega
  obtain ⟨la, lc, rfl, hl1, hl2⟩ := hl.shape
  obtain ⟨ra, rc, hrv, hrm⟩ := sl_len hx.rg
  obtain ⟨ma, mc, hmv, hmm⟩ := sl_len hx.mm
  simp only [List.length_map] at hrv hmv hrm hmm
  subst hrv hmv
  have Hl := Lib.hid hl
  have Hx := Lib.hid hx
  have HA : Hid (Fr [] w (w.alloc (.cells #[.slice ra x.regs.length rc, vi x.base, vi x.cfa, .int .u64 (x.at_ : Int), .slice ma x.mem.length mc] 52))) := (Fr.refl _ _).alloc _
  obtain ⟨c00, c01, c02, c03, c04⟩ := box_at (Fr.refl [] (w.alloc (.cells #[.slice ra x.regs.length rc, vi x.base, vi x.cfa, .int .u64 (x.at_ : Int), .slice ma x.mem.length mc] 52)))
  have HB : Hid (x.regs.length ≤ 100 ∧ x.mem.length ≤ 10000 ∧ x.at_ + x.mem.length < 18446744073709551616) := by simp only [smallB, Bool.and_eq_true, decide_eq_true_eq] at hs; exact ⟨hs.1.1, hs.1.2, hs.2⟩
  have HI := Lib.hid (rcall_i64 hl)
  have HJ := Lib.hid (exprOk_jumps he)
  have H7 := Lib.hid h7
  clear h7
  have H9 : Hid ((decide (x.regs.length ≤ 2147483647) && decide (x.mem.length ≤ 2147483647)) = true) := h9
  clear h9
  have ht0 := decide_eq_false ht
  have hn0 := decide_eq_false hn
  have hm0 : ¬ (200 : Int) < (l.length : Int) := by omega
  have hm1 : decide ((200 : Int) < (l.length : Int)) = false := decide_eq_false hm0
  have HS : Hid ((decide (x.regs.length ≤ 100) && decide (x.mem.length ≤ 10000) && decide (x.at_ + x.mem.length < 18446744073709551616)) = true) := hs
  clear hs
  have HE := Lib.hid he
  clear he
  clear hl hx
  go_enter Try.func8, Try.ntmps8
  go_wp2_with (go_at_call 24; go_must (refine (zzFits7_any w _ l _ Hl.out HA.out).mono ?_); rw [H7.out]; rintro e w1 ⟨rfl, hf1⟩; have F1 : Hid (Fr [] (w.alloc (.cells #[.slice ra x.regs.length rc, vi x.base, vi x.cfa, .int .u64 (x.at_ : Int), .slice ma x.mem.length mc] 52)) w1) := (Fr.refl [] (w.alloc (.cells #[.slice ra x.regs.length rc, vi x.base, vi x.cfa, .int .u64 (x.at_ : Int), .slice ma x.mem.length mc] 52))).then hf1; clear hf1; obtain ⟨c10, c11, c12, c13, c14⟩ := box_at F1.out; )
  go_wp2_with (go_at_call 25; go_must (refine (zzFits9_any _ _ _ _ _ _ _ _ _ _).mono ?_); rw [H9.out]; rintro e w2 ⟨rfl, hf2⟩; have F2 : Hid (Fr [] (w.alloc (.cells #[.slice ra x.regs.length rc, vi x.base, vi x.cfa, .int .u64 (x.at_ : Int), .slice ma x.mem.length mc] 52)) w2) := F1.out.then hf2; clear hf2; obtain ⟨c20, c21, c22, c23, c24⟩ := box_at F2.out; )
  go_wp2_with (go_at_call 26; go_must (refine (small_any _ _ _ _ _ _ _ _ _ _ Hx.out.b3).mono ?_); rw [HS.out]; rintro e w3 ⟨rfl, hf3⟩; have F3 : Hid (Fr [] (w.alloc (.cells #[.slice ra x.regs.length rc, vi x.base, vi x.cfa, .int .u64 (x.at_ : Int), .slice ma x.mem.length mc] 52)) w3) := F2.out.then hf3; clear hf3; obtain ⟨c30, c31, c32, c33, c34⟩ := box_at F3.out; )
  go_wp2_with (go_at_call 27; go_must (refine (Expression_any w _ l _ Hl.out (HA.out.then F3.out) (by omega)).mono ?_); rintro e w4 hx4; obtain ⟨a4, k4, rfl, ho4, hf4⟩ := ExprPost.ok hx4 HE.out; clear ho4 hx4; have F4 : Hid (Fr [] (w.alloc (.cells #[.slice ra x.regs.length rc, vi x.base, vi x.cfa, .int .u64 (x.at_ : Int), .slice ma x.mem.length mc] 52)) w4) := F3.out.then hf4; clear hf4; obtain ⟨c40, c41, c42, c43, c44⟩ := box_at F4.out; )
  go_wp2_with fail
  go_loopw [9, 66] (fun v i wr => ∃ k : Nat, k ≤ l.length ∧ i = .int .i64 (k : Int) ∧ NpR w w4 (nopI t l k) v wr) (fun _ i _ => l.length - (intOf i).toNat)
  case atStart => exact ⟨0, Nat.zero_le _, rfl, Fr.refl _ _, [], by simp [nopI], World.ownsRow_nil _ _ _ _, by simp⟩
  case round =>
    obtain ⟨k, hk, rfl, hnp⟩ := hrel
    have HN := Lib.hid hnp
    clear hnp
    by_cases hlt : k < l.length
    · obtain ⟨qs, hq1, hq2, hq3⟩ := HN.out.own
      have hql : qs.length = (nopI t l k).length := by rw [← hq1]; simp
      have hq201 : qs.length ≤ 201 := by have := nopI_len t l k hk; omega
      have hwsz : w4.heap.size ≤ wr.heap.size := HN.out.fr.size
      obtain ⟨g, o, da, dc, rfl, d0, d1, d2, d3, hd, i0, i1, i2⟩ := call_at Hl.out (HA.out.then (F4.out.then HN.out.fr)) k hlt
      have hj := HJ.out _ (List.getElem_mem hlt)
      have Hne := Lib.hid (nopI_ne (t := t) hlt)
      have Heq := Lib.hid (fun h : k = t => nopI_eq (t := t) (l := l) (h ▸ hlt))
      obtain ⟨y, hy⟩ : ∃ y, l[k] = y := ⟨_, rfl⟩
      have Hy := Lib.hid hy
      rw [hy] at d0 d1 d2 d3 hd i0 i1 i2 hj
      have HD := Lib.hid hd
      have HII := Lib.hid (And.intro i0 (And.intro i1 i2))
      have HQ1 := Lib.hid hq1
      have HQ2 := Lib.hid hq2
      have HQ3 := Lib.hid hq3
      clear hy hd i0 i1 i2 hq1 hq2 hq3 hql
      obtain ⟨op, a, b, dt⟩ := y
      simp only at d0 d1 d2 d3 hj
      obtain ⟨va, vc, rfl⟩ := own_slice HQ2.out
      have HQL : Hid (∀ g, (Value.slice va qs.length vc).ownBlock = some g → g < wr.heap.size) := fun g hg => (HQ2.out.lt g hg).2
      go_upto_if 73 with fail
      go_cut [9] from 73 to 77 (fun v wz => ∃ qs2 a2 c2, v = .slice a2 qs2.length c2 ∧ qs2.map (·.1) ++ [raiseC t ⟨op, a, b, dt⟩] = nopI t l (k + 1) ∧ wz.ownsRow w4.heap.size 48 4 (.slice a2 qs2.length c2) qs2.length (ncells qs2) ∧ (∀ q ∈ qs2, OkQ w q) ∧
        (∀ g, (Value.slice a2 qs2.length c2).ownBlock = some g → g ≠ wr.heap.size) ∧ qs2.length ≤ 202 ∧ wr.heap.size < wz.heap.size ∧ wz.heap[wr.heap.size]? = some (.cells #[vi op, vi a, vi b, .slice da dt.length dc] 48 (0, 0)) ∧ Fr [] w4 wz)
      case first =>
        as_aux_lemma =>
        by_cases hkt : k = t
        · have qt : ((k : Int) == (t : Int)) = true := by rw [hkt]; exact beq_self_eq_true _
          have Hkt := Lib.hid hkt
          clear hkt
          have HO1 : Hid (((wr.alloc (.cells #[vi op, vi a, vi b, .slice da dt.length dc] 48)).alloc (.cells #[vi 150, vi 0, vi 0, .slice none 0 0] 48)).ownsRow w4.heap.size 48 4 (.slice va qs.length vc) qs.length (ncells qs)) := own_fr HQ2.out (((Fr.refl [] _).alloc _).alloc _) (by simp)
          have HN1 : Hid (∀ ad : Addr, some ⟨wr.heap.size + 1, 0, none⟩ = some ad → ∀ j u, (ncell nopC (.slice none 0 0))[j]? = some u → ((wr.alloc (.cells #[vi op, vi a, vi b, .slice da dt.length dc] 48)).alloc (.cells #[vi 150, vi 0, vi 0, .slice none 0 0] 48)).cell? (ad.add j) = some u) := by
            have h := news_blk (blk_new (wr.alloc (.cells #[vi op, vi a, vi b, .slice da dt.length dc] 48)) (.cells #[vi 150, vi 0, vi 0, .slice none 0 0] 48))
            rw [World.size_alloc] at h; exact h
          go_wp2_with (at_builtin; go_must (refine wpList_app4 sliceOn _ rfl _ _ rfl w4.heap.size _ qs.length (ncells qs) rfl HO1.out (some ⟨wr.heap.size + 1, 0, none⟩) 1 1 (ncell nopC (.slice none 0 0)) rfl rfl (fun h => by cases h) HN1.out (by simp [Value.oneCell']) (by omega) (by decide) (by simp; omega) ?_))
          intro a8 c8 w8 ho8 hf8 hg8 ht8
          have Ho8 := Lib.hid ho8
          have Hf8 := Lib.hid hf8
          have Hg8 := Lib.hid hg8
          clear ho8 hf8 hg8 ht8
          go_wp2_with fail
          go_meet
          refine ⟨qs ++ [(nopC, .slice none 0 0)], a8, c8, by simp, ?_, ?_, ?_, ?_, by simp; omega, ?_, ?_, ?_⟩
          · have h := Heq.out Hkt.out
            have hkt := Hkt.out
            subst hkt
            rw [h, List.map_append, HQ1.out, Hy.out]; rfl
          · rw [ncells_snoc]; simpa using Ho8.out
          · intro q hq
            rcases List.mem_append.1 hq with hq | hq
            · exact HQ3.out q hq
            · simp at hq; subst hq; exact OkQ.nop w
          · intro g hg
            rcases Hg8.out g (by simpa using hg) with h | h
            · have := HQL.out g h; omega
            · omega
          · have := Hf8.out.size; rw [World.size_alloc, World.size_alloc] at this; omega
          · exact Hf8.out.get (blk_alloc (blk_new wr _)) (by
              intro hm
              have := HQL.out _ (by simpa using hm)
              omega)
          · exact ((HN.out.fr.alloc _).alloc _).app HO1.out (Nat.le_refl _) Hf8.out
        · have qt : ((k : Int) == (t : Int)) = false := by rw [beq_eq_false_iff_ne]; omega
          have Hkt := Lib.hid hkt
          clear hkt
          go_wp2_with fail
          go_meet
          refine ⟨qs, va, vc, rfl, ?_, own_fr HQ2.out ((Fr.refl [] _).alloc _) (by simp), HQ3.out, fun g hg => by have := HQL.out g hg; omega, by omega, by simp, blk_new wr _, HN.out.fr.alloc _⟩
          rw [Hne.out Hkt.out, HQ1.out, Hy.out]
      case rest =>
        clear Hne Heq Hy HQ1 HQ2 HQ3 HQL d0 d1 d2 d3
        obtain ⟨qs2, a2, c2, rfl, hq1, hq2, hq3, hqb, hq4, hsz, hbx, hfz⟩ := hcut
        have HQ1 := Lib.hid hq1
        have HQ2 := Lib.hid hq2
        have HQ3 := Lib.hid hq3
        have HQB := Lib.hid hqb
        have HBX := Lib.hid hbx
        have HFZ := Lib.hid hfz
        obtain ⟨bb, hbb⟩ : ∃ bb, wr.heap.size = bb := ⟨_, rfl⟩
        rw [hbb] at hsz hbx ⊢
        have e0 : wc.cell? ⟨bb, 0, none⟩ = some (vi op) := blk_cell hbx 0
        have e1 : wc.cell? ⟨bb, 1, none⟩ = some (vi a) := blk_cell hbx 1
        have e2 : wc.cell? ⟨bb, 2, none⟩ = some (vi b) := blk_cell hbx 2
        have e3 : wc.cell? ⟨bb, 3, none⟩ = some (.slice da dt.length dc) := blk_cell hbx 3
        have z1 : wc.frozen? ⟨bb, 1, none⟩ = false := blk_free hbx 1
        clear hq1 hq2 hq3 hqb hbx hfz
        have hwb : w4.heap.size ≤ bb := by omega
        by_cases h4 : op = 40 ∨ op = 47
        · have hj2 := hj h4
          by_cases hta : (t : Int) < a
          · rcases h4 with rfl | rfl
            · as_aux_lemma =>
                have hr : raiseC t ⟨40, a, b, dt⟩ = ⟨40, (a + 1), b, dt⟩ := by simp only [raiseC]; rw [if_pos ⟨by simp, hta⟩]
                have Hr := Lib.hid hr
                have HO : Hid ((wc.setCell ⟨bb, 1, none⟩ (vi (a + 1))).alloc (.cells #[vi 40, vi (a + 1), vi b, .slice da dt.length dc] 48) |>.ownsRow w4.heap.size 48 4 (.slice a2 qs2.length c2) qs2.length (ncells qs2)) := own_fr HQ2.out (((Fr.refl [bb] _).setCell (.inl (by simp)) _).alloc _) (fun g hg => by have := HQB.out g hg; simp; omega)
                have HW : Hid (∀ ad : Addr, some ⟨wc.heap.size, 0, none⟩ = some ad → ∀ j u, (ncell ⟨40, (a + 1), b, dt⟩ (.slice da dt.length dc))[j]? = some u → ((wc.setCell ⟨bb, 1, none⟩ (vi (a + 1))).alloc (.cells #[vi 40, vi (a + 1), vi b, .slice da dt.length dc] 48)).cell? (ad.add j) = some u) := by
                  have h := news_blk (blk_new (wc.setCell ⟨bb, 1, none⟩ (vi (a + 1))) (.cells #[vi 40, vi (a + 1), vi b, .slice da dt.length dc] 48))
                  have e : (wc.setCell ⟨bb, 1, none⟩ (vi (a + 1))).heap.size = wc.heap.size := by simp [World.setCell]
                  rw [e] at h; exact h
                clear hr
                go_wp2_with (at_builtin; go_must (refine wpList_app4 sliceOn _ rfl _ _ rfl w4.heap.size _ qs2.length (ncells qs2) rfl HO.out (some ⟨wc.heap.size, 0, none⟩) 1 1 (ncell ⟨40, (a + 1), b, dt⟩ (.slice da dt.length dc)) rfl rfl (fun h => by cases h) HW.out (by simp [Value.oneCell']) (by omega) (by decide) (by simp [World.setCell]; omega) ?_))
                intro a8 c8 w8 ho8 hf8 hg8 ht8
                have Ho8 := Lib.hid ho8
                have Hf8 := Lib.hid hf8
                clear ho8 hf8 hg8 ht8
                go_wp2_with fail
                go_roundw
                case rel =>
                  refine ⟨k + 1, by omega, by go_num, (HFZ.out.setCell (.inr (by show w4.heap.size ≤ bb; omega)) _).alloc _ |>.app HO.out (Nat.le_refl _) Hf8.out, qs2 ++ [(⟨40, (a + 1), b, dt⟩, .slice da dt.length dc)], by rw [List.map_append, ← HQ1.out, Hr.out]; rfl, by rw [ncells_snoc]; simpa using Ho8.out, ?_⟩
                  intro q hq
                  rcases List.mem_append.1 hq with hq | hq
                  · exact HQ3.out q hq
                  · simp at hq; subst hq
                    have hii := HII.out
                    refine ⟨HD.out, hii.1, ?_, hii.2.2⟩
                    have h2 := hii.2.1; unfold i64 at h2 ⊢; simp only at h2 ⊢; omega
                case measure => simp [intOf]; omega
            · as_aux_lemma =>
                have hr : raiseC t ⟨47, a, b, dt⟩ = ⟨47, (a + 1), b, dt⟩ := by simp only [raiseC]; rw [if_pos ⟨by simp, hta⟩]
                have Hr := Lib.hid hr
                have HO : Hid ((wc.setCell ⟨bb, 1, none⟩ (vi (a + 1))).alloc (.cells #[vi 47, vi (a + 1), vi b, .slice da dt.length dc] 48) |>.ownsRow w4.heap.size 48 4 (.slice a2 qs2.length c2) qs2.length (ncells qs2)) := own_fr HQ2.out (((Fr.refl [bb] _).setCell (.inl (by simp)) _).alloc _) (fun g hg => by have := HQB.out g hg; simp; omega)
                have HW : Hid (∀ ad : Addr, some ⟨wc.heap.size, 0, none⟩ = some ad → ∀ j u, (ncell ⟨47, (a + 1), b, dt⟩ (.slice da dt.length dc))[j]? = some u → ((wc.setCell ⟨bb, 1, none⟩ (vi (a + 1))).alloc (.cells #[vi 47, vi (a + 1), vi b, .slice da dt.length dc] 48)).cell? (ad.add j) = some u) := by
                  have h := news_blk (blk_new (wc.setCell ⟨bb, 1, none⟩ (vi (a + 1))) (.cells #[vi 47, vi (a + 1), vi b, .slice da dt.length dc] 48))
                  have e : (wc.setCell ⟨bb, 1, none⟩ (vi (a + 1))).heap.size = wc.heap.size := by simp [World.setCell]
                  rw [e] at h; exact h
                clear hr
                go_wp2_with (at_builtin; go_must (refine wpList_app4 sliceOn _ rfl _ _ rfl w4.heap.size _ qs2.length (ncells qs2) rfl HO.out (some ⟨wc.heap.size, 0, none⟩) 1 1 (ncell ⟨47, (a + 1), b, dt⟩ (.slice da dt.length dc)) rfl rfl (fun h => by cases h) HW.out (by simp [Value.oneCell']) (by omega) (by decide) (by simp [World.setCell]; omega) ?_))
                intro a8 c8 w8 ho8 hf8 hg8 ht8
                have Ho8 := Lib.hid ho8
                have Hf8 := Lib.hid hf8
                clear ho8 hf8 hg8 ht8
                go_wp2_with fail
                go_roundw
                case rel =>
                  refine ⟨k + 1, by omega, by go_num, (HFZ.out.setCell (.inr (by show w4.heap.size ≤ bb; omega)) _).alloc _ |>.app HO.out (Nat.le_refl _) Hf8.out, qs2 ++ [(⟨47, (a + 1), b, dt⟩, .slice da dt.length dc)], by rw [List.map_append, ← HQ1.out, Hr.out]; rfl, by rw [ncells_snoc]; simpa using Ho8.out, ?_⟩
                  intro q hq
                  rcases List.mem_append.1 hq with hq | hq
                  · exact HQ3.out q hq
                  · simp at hq; subst hq
                    have hii := HII.out
                    refine ⟨HD.out, hii.1, ?_, hii.2.2⟩
                    have h2 := hii.2.1; unfold i64 at h2 ⊢; simp only at h2 ⊢; omega
                case measure => simp [intOf]; omega
          · have hta1 : decide ((t : Int) < a) = false := decide_eq_false hta
            rcases h4 with rfl | rfl
            · as_aux_lemma =>
                have hr : raiseC t ⟨40, a, b, dt⟩ = ⟨40, a, b, dt⟩ := by simp only [raiseC]; rw [if_neg (fun h => hta h.2)]
                have Hr := Lib.hid hr
                have HO : Hid (wc.alloc (.cells #[vi 40, vi a, vi b, .slice da dt.length dc] 48) |>.ownsRow w4.heap.size 48 4 (.slice a2 qs2.length c2) qs2.length (ncells qs2)) := own_fr HQ2.out ((Fr.refl [] _).alloc _) (by simp)
                have HW : Hid (∀ ad : Addr, some ⟨wc.heap.size, 0, none⟩ = some ad → ∀ j u, (ncell ⟨40, a, b, dt⟩ (.slice da dt.length dc))[j]? = some u → (wc.alloc (.cells #[vi 40, vi a, vi b, .slice da dt.length dc] 48)).cell? (ad.add j) = some u) := by
                  have h := news_blk (blk_new wc (.cells #[vi 40, vi a, vi b, .slice da dt.length dc] 48))
                  have e : wc.heap.size = wc.heap.size := by simp [World.setCell]
                  rw [e] at h; exact h
                clear hr
                go_wp2_with (at_builtin; go_must (refine wpList_app4 sliceOn _ rfl _ _ rfl w4.heap.size _ qs2.length (ncells qs2) rfl HO.out (some ⟨wc.heap.size, 0, none⟩) 1 1 (ncell ⟨40, a, b, dt⟩ (.slice da dt.length dc)) rfl rfl (fun h => by cases h) HW.out (by simp [Value.oneCell']) (by omega) (by decide) (by simp [World.setCell]; omega) ?_))
                intro a8 c8 w8 ho8 hf8 hg8 ht8
                have Ho8 := Lib.hid ho8
                have Hf8 := Lib.hid hf8
                clear ho8 hf8 hg8 ht8
                go_wp2_with fail
                go_roundw
                case rel =>
                  refine ⟨k + 1, by omega, by go_num, HFZ.out.alloc _ |>.app HO.out (Nat.le_refl _) Hf8.out, qs2 ++ [(⟨40, a, b, dt⟩, .slice da dt.length dc)], by rw [List.map_append, ← HQ1.out, Hr.out]; rfl, by rw [ncells_snoc]; simpa using Ho8.out, ?_⟩
                  intro q hq
                  rcases List.mem_append.1 hq with hq | hq
                  · exact HQ3.out q hq
                  · simp at hq; subst hq
                    have hii := HII.out
                    refine ⟨HD.out, hii.1, ?_, hii.2.2⟩
                    exact hii.2.1
                case measure => simp [intOf]; omega
            · as_aux_lemma =>
                have hr : raiseC t ⟨47, a, b, dt⟩ = ⟨47, a, b, dt⟩ := by simp only [raiseC]; rw [if_neg (fun h => hta h.2)]
                have Hr := Lib.hid hr
                have HO : Hid (wc.alloc (.cells #[vi 47, vi a, vi b, .slice da dt.length dc] 48) |>.ownsRow w4.heap.size 48 4 (.slice a2 qs2.length c2) qs2.length (ncells qs2)) := own_fr HQ2.out ((Fr.refl [] _).alloc _) (by simp)
                have HW : Hid (∀ ad : Addr, some ⟨wc.heap.size, 0, none⟩ = some ad → ∀ j u, (ncell ⟨47, a, b, dt⟩ (.slice da dt.length dc))[j]? = some u → (wc.alloc (.cells #[vi 47, vi a, vi b, .slice da dt.length dc] 48)).cell? (ad.add j) = some u) := by
                  have h := news_blk (blk_new wc (.cells #[vi 47, vi a, vi b, .slice da dt.length dc] 48))
                  have e : wc.heap.size = wc.heap.size := by simp [World.setCell]
                  rw [e] at h; exact h
                clear hr
                go_wp2_with (at_builtin; go_must (refine wpList_app4 sliceOn _ rfl _ _ rfl w4.heap.size _ qs2.length (ncells qs2) rfl HO.out (some ⟨wc.heap.size, 0, none⟩) 1 1 (ncell ⟨47, a, b, dt⟩ (.slice da dt.length dc)) rfl rfl (fun h => by cases h) HW.out (by simp [Value.oneCell']) (by omega) (by decide) (by simp [World.setCell]; omega) ?_))
                intro a8 c8 w8 ho8 hf8 hg8 ht8
                have Ho8 := Lib.hid ho8
                have Hf8 := Lib.hid hf8
                clear ho8 hf8 hg8 ht8
                go_wp2_with fail
                go_roundw
                case rel =>
                  refine ⟨k + 1, by omega, by go_num, HFZ.out.alloc _ |>.app HO.out (Nat.le_refl _) Hf8.out, qs2 ++ [(⟨47, a, b, dt⟩, .slice da dt.length dc)], by rw [List.map_append, ← HQ1.out, Hr.out]; rfl, by rw [ncells_snoc]; simpa using Ho8.out, ?_⟩
                  intro q hq
                  rcases List.mem_append.1 hq with hq | hq
                  · exact HQ3.out q hq
                  · simp at hq; subst hq
                    have hii := HII.out
                    refine ⟨HD.out, hii.1, ?_, hii.2.2⟩
                    exact hii.2.1
                case measure => simp [intOf]; omega
        · have p40 : (op == 40) = false := by rw [beq_eq_false_iff_ne]; omega
          have p47 : (op == 47) = false := by rw [beq_eq_false_iff_ne]; omega
          as_aux_lemma =>
            have hr : raiseC t ⟨op, a, b, dt⟩ = ⟨op, a, b, dt⟩ := by simp only [raiseC]; rw [if_neg (fun h => h4 h.1)]
            have Hr := Lib.hid hr
            have HO : Hid (wc.alloc (.cells #[vi op, vi a, vi b, .slice da dt.length dc] 48) |>.ownsRow w4.heap.size 48 4 (.slice a2 qs2.length c2) qs2.length (ncells qs2)) := own_fr HQ2.out ((Fr.refl [] _).alloc _) (by simp)
            have HW : Hid (∀ ad : Addr, some ⟨wc.heap.size, 0, none⟩ = some ad → ∀ j u, (ncell ⟨op, a, b, dt⟩ (.slice da dt.length dc))[j]? = some u → (wc.alloc (.cells #[vi op, vi a, vi b, .slice da dt.length dc] 48)).cell? (ad.add j) = some u) := by
              have h := news_blk (blk_new wc (.cells #[vi op, vi a, vi b, .slice da dt.length dc] 48))
              have e : wc.heap.size = wc.heap.size := by simp [World.setCell]
              rw [e] at h; exact h
            clear hr
            go_wp2_with (at_builtin; go_must (refine wpList_app4 sliceOn _ rfl _ _ rfl w4.heap.size _ qs2.length (ncells qs2) rfl HO.out (some ⟨wc.heap.size, 0, none⟩) 1 1 (ncell ⟨op, a, b, dt⟩ (.slice da dt.length dc)) rfl rfl (fun h => by cases h) HW.out (by simp [Value.oneCell']) (by omega) (by decide) (by simp [World.setCell]; omega) ?_))
            intro a8 c8 w8 ho8 hf8 hg8 ht8
            have Ho8 := Lib.hid ho8
            have Hf8 := Lib.hid hf8
            clear ho8 hf8 hg8 ht8
            go_wp2_with fail
            go_roundw
            case rel =>
              refine ⟨k + 1, by omega, by go_num, HFZ.out.alloc _ |>.app HO.out (Nat.le_refl _) Hf8.out, qs2 ++ [(⟨op, a, b, dt⟩, .slice da dt.length dc)], by rw [List.map_append, ← HQ1.out, Hr.out]; rfl, by rw [ncells_snoc]; simpa using Ho8.out, ?_⟩
              intro q hq
              rcases List.mem_append.1 hq with hq | hq
              · exact HQ3.out q hq
              · simp at hq; subst hq
                have hii := HII.out
                refine ⟨HD.out, hii.1, ?_, hii.2.2⟩
                exact hii.2.1
            case measure => simp [intOf]; omega
    · obtain rfl : k = l.length := by omega
      clear hlt
      have Hend := Lib.hid (nopI_end (t := t) (l := l))
      have Hlast := Lib.hid (nopI_last (l := l))
      go_upto_if 104 with fail
      go_cut [9] from 104 to 108 (fun v wz => ∃ a2 c2, v = .slice a2 (l.length + 1) c2 ∧ NpR w w4 (nopL t l) (.slice a2 (l.length + 1) c2) wz)
      case first =>
        as_aux_lemma =>
        obtain ⟨qs, hq1, hq2, hq3⟩ := HN.out.own
        have hql : qs.length = (nopI t l l.length).length := by rw [← hq1]; simp
        have HQ1 := Lib.hid hq1
        have HQ2 := Lib.hid hq2
        have HQ3 := Lib.hid hq3
        obtain ⟨va, vc, rfl⟩ := own_slice HQ2.out
        clear hq1 hq2 hq3
        have hwsz : w4.heap.size ≤ wr.heap.size := HN.out.fr.size
        by_cases hkt : t = l.length
        · have qt : ((t : Int) == (l.length : Int)) = true := by rw [hkt]; exact beq_self_eq_true _
          have hqn : qs.length = l.length := by rw [hql]; unfold nopI; rw [if_neg (by omega)]; simp
          have HO1 : Hid ((wr.alloc (.cells #[vi 150, vi 0, vi 0, .slice none 0 0] 48)).ownsRow w4.heap.size 48 4 (.slice va qs.length vc) qs.length (ncells qs)) := own_fr HQ2.out ((Fr.refl [] _).alloc _) (by simp)
          have Hkt := Lib.hid hkt
          have Hqn := Lib.hid hqn
          clear hkt hql hqn
          have hq201 : qs.length ≤ 201 := by have := Hqn.out; omega
          go_wp2_with (at_builtin; go_must (refine wpList_app4 sliceOn _ rfl _ _ rfl w4.heap.size _ qs.length (ncells qs) rfl HO1.out (some ⟨wr.heap.size, 0, none⟩) 1 1 (ncell nopC (.slice none 0 0)) rfl rfl (fun h => by cases h) (news_blk (blk_new wr _)) (by simp [Value.oneCell']) (by omega) (by decide) (by simp; omega) ?_))
          intro a8 c8 w8 ho8 hf8 hg8 ht8
          have Ho8 := Lib.hid ho8
          have Hf8 := Lib.hid hf8
          clear ho8 hf8 hg8 ht8
          go_wp2_with fail
          go_meet
          refine ⟨a8, c8, by rw [Hqn.out], (HN.out.fr.alloc _).app HO1.out (Nat.le_refl _) Hf8.out, qs ++ [(nopC, .slice none 0 0)], ?_, ?_, ?_⟩
          · have h := Hlast.out
            rw [List.map_append, HQ1.out, Hkt.out, ← h]; rfl
          · rw [ncells_snoc, ← Hqn.out]; simpa using Ho8.out
          · intro q hq
            rcases List.mem_append.1 hq with hq | hq
            · exact HQ3.out q hq
            · simp at hq; subst hq; exact OkQ.nop w
        · have qt : ((t : Int) == (l.length : Int)) = false := by rw [beq_eq_false_iff_ne]; omega
          have hqn : qs.length = l.length + 1 := by rw [hql, Hend.out (by omega), nopL_len t l htn]
          have Hkt := Lib.hid hkt
          have Hqn := Lib.hid hqn
          clear hkt hql hqn
          go_wp2_with fail
          go_meet
          refine ⟨va, vc, by rw [Hqn.out], HN.out.fr, qs, ?_, ?_, HQ3.out⟩
          · rw [HQ1.out, Hend.out (by have := Hkt.out; omega)]
          · rw [← Hqn.out]; exact HQ2.out
      case rest =>
        obtain ⟨a2, c2, rfl, hnp2⟩ := hcut
        have HNP := Lib.hid hnp2
        have FC : Hid (Fr [] (w.alloc (.cells #[.slice ra x.regs.length rc, vi x.base, vi x.cfa, .int .u64 (x.at_ : Int), .slice ma x.mem.length mc] 52)) wc) := F4.out.then HNP.out.fr
        obtain ⟨cc0, cc1, cc2, cc3, cc4⟩ := box_at FC.out
        refine use_tail (c := nopTail) (Q := bodyPost Try.prog Try.f8 (fun e w' => e = .returned (.bool true) ∧ Fr [] w w')) (by assumption) ?_
        exact Nop_tail _ _ _ _ _ _ t l x w w4 wc _ _ Hl.out Hx.out htn hm HB.out HE.out FC.out HNP.out _ _ _ _ _ _ _ _ _ _ _ _ _ _ _ _ _ _ _ _ _ _ _ _ _ _ _ _ _ _ _ _ _ _ _ _ _ _ _ _ _ _ _ _ _ _ _ _ _ _ _ _ _ _ _ _ _ _ _ _ _ _ _ _ _ _ _ _ _ _ _ _ _ _ _ _ _ _ _ _ _ _ _ _ _ _ _ _ _ _ _ _ _ _ _ _ _ _ _ _ _ _ _ _ _ _ _ _ _ _ _ _ _ _ _ _ _ _ _ _ _ _ _ _ _ _ _ _ _ _ _ _ _ _ _ _ _ _ _ _ _ _ _ _ _ _ _ _ _ _ _ _ _ _ _ _ _ _ _ _ _ _ _ _ _ _ _ _ _ _ _ _ _ _ _ _ _ _ _ _ _ _ _ _ _ _ _ _ _ _ _ _ _ _ _ _ _ _ _ _ _ _ _ _ _ _ _ _ _ _ _ _ _ _ _ _ _ _ _ _ _ _ _ _ _ _ _ _ _ _ _ _ _ _ _ _ _ _ 
end Go.Proofs.Ytahohmdfllgedaa
