/- What spec.Padded does. -/
import Derived.Test.YtahohmdfllgedaaImp
namespace Go.Proofs.Ytahohmdfllgedaa
open Go.RowKit

theorem own_some {w : World} {base e sz : Nat} {v : Value} {vs : List Value} {n : Nat} (h : w.ownsRow base e sz v n vs) (hn : 0 < n) : ∃ g c, v = .slice (some ⟨g, 0, none⟩) n c ∧ base ≤ g ∧ n ≤ c ∧ c ≤ maxLen := by
  rcases h.2 with ⟨rfl, rfl⟩ | ⟨g, cap, cur, rfl, hb, hg, hnc, hcm, _⟩
  · omega
  · exact ⟨g, cap, rfl, hb, hnc, hcm⟩

set_option maxRecDepth 100000 in
set_option maxHeartbeats 2000000 in
theorem Padded_any (v : Value) (l : List UInt8) (more : Nat) (sign : Bool) (fill : UInt8) (w : World) (h : Sl w v (vbs l)) (hne : 0 < l.length) (hl : l.length ≤ 10) (hm : more ≤ 10)
    (hfill : (sign = false ∧ fill = 0) ∨ (sign = true ∧ (l.getD (l.length - 1) 0).toNat % 128 < 64 ∧ fill = 0) ∨ (sign = true ∧ 64 ≤ (l.getD (l.length - 1) 0).toNat % 128 ∧ fill = 127)) :
    Calls Try.prog 12 #[v, .int .i64 (more : Int), .bool sign] w (Made (padN fill more l) w) := by
  obtain ⟨ao, c, rfl, h1, h2⟩ := sl_news h
  simp only [List.length_map] at h1 ⊢
  cases ao with
  | none => have := (h1 rfl).1; omega
  | some ad =>
    have h3 : ∀ j u, (vbs l)[j]? = some u → (w.alloc (.cells #[] 5)).cell? (ad.add j) = some u :=
      fun j u hu => ((Fr.refl [] w).alloc _).cell (h2 ad rfl j u hu) (by simp)
    have H3 := Lib.hid h3
    clear h2 h3 h1
    have Hfill := Lib.hid hfill
    clear hfill
    go_enter Try.func12, Try.ntmps12
    go_wp2_with (at_builtin; go_must (refine wpList_app sliceB _ rfl _ _ rfl w.heap.size _ 0 [] rfl (World.ownsRow_made w #[] 0 (Nat.le_refl _) (by simp) rfl) (some ad) l.length c (vbs l) rfl (by simp) (fun h => by cases h) ?_ (vbs_one l) (by omega) (by decide) (by simp) ?_))
    · intro ad' had; cases had; exact H3.out
    intro a' c' w1 ho1 hf1 hg1
    obtain ⟨g, c1, hv, hgb, hlc, hcm⟩ := own_some ho1 hne
    obtain ⟨rfl, rfl⟩ : a' = some ⟨g, 0, none⟩ ∧ c' = c1 := by simpa using hv
    have hcell := ho1.cellAt (l.length - 1) (by omega)
    have hx : (vbs l)[l.length - 1]? = some (.int .u8 (((l.getD (l.length - 1) 0).toNat : Nat) : Int)) := by
      simp [List.getD, List.getElem?_eq_getElem (show l.length - 1 < l.length by omega)]
    rw [hx] at hcell
    have HX := Lib.hid hx
    have Ho1 := Lib.hid ho1
    have Hf1 := Lib.hid hf1
    clear ho1 hf1 hg1 hv hx
    unfold maxLen at hcm
    have hi0 : (0 : Int) ≤ (l.length : Int) - 1 := by omega
    have hi1 : ((l.length : Int) - 1).toNat = l.length - 1 := by omega
    have hs : Hid (Fr [] w w1) := ((Fr.refl [] w).alloc _).trans Hf1.out (fun i hi hlt => by simp [Value.ownBlock] at hi; omega)
    obtain ⟨last, hlast⟩ : ∃ x, x = l.getD (l.length - 1) 0 := ⟨_, rfl⟩
    rw [← hlast] at hcell
    have Hfill' : Hid ((sign = false ∧ fill = 0) ∨ (sign = true ∧ last.toNat % 128 < 64 ∧ fill = 0) ∨ (sign = true ∧ 64 ≤ last.toNat % 128 ∧ fill = 127)) := by rw [hlast]; exact Hfill.out
    have Hlast := Lib.hid hlast
    clear hlast Hfill
    rcases Hfill'.out with ⟨rfl, hf⟩ | ⟨rfl, hb, hf⟩ | ⟨rfl, hb, hf⟩
    · have Hf : Hid (.int .u8 0 = vb fill) := by rw [hf]; rfl
      clear Hfill' hf
      go_wp2_with fail
      revert Hf
      generalize Value.int .u8 0 = fv
      intro Hf
      obtain rfl := Hf.out
      clear Hf
      clear h hcell hi0 hi1
      generalize hgg : g = g0 at *
      clear hgg
      go_loopw [7, 24] (fun o i wr => ∃ k : Nat, ∃ cur : List UInt8, ∃ gc cc : Nat, k ≤ more ∧ i = .int .i64 (k : Int) ∧ 0 < cur.length ∧ cur.length = l.length + k ∧ o = .slice (some ⟨gc, 0, none⟩) cur.length cc ∧ cur.length ≤ cc ∧ cc ≤ 9223372036854775807 ∧
          padN fill (more - k) cur = padN fill more l ∧ wr.ownsRow w.heap.size 5 1 (.slice (some ⟨gc, 0, none⟩) cur.length cc) cur.length (vbs cur) ∧ Fr [] w wr) (fun _ i _ => more - (intOf i).toNat)
      case atStart => exact ⟨0, l, g0, c', Nat.zero_le _, rfl, hne, rfl, rfl, hlc, hcm, rfl, Ho1.out, hs.out⟩
      case round =>
        clear hgb hlc hcm HX Ho1 Hf1 hs
        obtain ⟨k, cur, gc, cc, hk, rfl, hcur, hcl, rfl, hcc, hccm, hpad, hown, hfr⟩ := hrel
        have Hown := Lib.hid hown
        have Hfr := Lib.hid hfr
        have Hpad := Lib.hid hpad
        have Hcl := Lib.hid hcl
        clear hown hfr hpad
        by_cases hlt : k < more
        · obtain ⟨x, hx⟩ : ∃ x, x = cur.getD (cur.length - 1) 0 := ⟨_, rfl⟩
          have hcell := Hown.out.cellAt (cur.length - 1) (by omega)
          have hxx : (vbs cur)[cur.length - 1]? = some (.int .u8 ((x.toNat : Nat) : Int)) := by
            rw [hx]; simp [List.getD, List.getElem?_eq_getElem (show cur.length - 1 < cur.length by omega)]
          rw [hxx] at hcell
          have hfz := Hown.out.frozenAt (cur.length - 1)
          have hor := or_hi x
          have HX := Lib.hid hx
          have hi0 : (0 : Int) ≤ (cur.length : Int) - 1 := by omega
          have hi1 : ((cur.length : Int) - 1).toNat = cur.length - 1 := by omega
          have hset : (vbs cur).set (cur.length - 1) (vb (hi x)) = vbs (cur.set (cur.length - 1) (hi x)) := by simp [List.map_set]
          have Hst : Hid ((wr.setCell ⟨gc, cur.length - 1, none⟩ (vb (hi x))).ownsRow w.heap.size 5 1 (.slice (some ⟨gc, 0, none⟩) cur.length cc) cur.length (vbs (cur.set (cur.length - 1) (hi x)))) := by
            have := (Hown.out.stored (cur.length - 1) (vb (hi x))).1
            rw [hset] at this; exact this
          clear hx hxx hset
          have hmore : (k : Int) < more := by omega
          have hclb : cur.length ≤ 20 := by omega
          clear hcl
          generalize hy : hi x = y at *
          have Hy := Lib.hid hy
          clear hy
          go_wp2_with (at_builtin; go_must (refine wpList_app sliceB _ rfl _ _ rfl w.heap.size _ cur.length (vbs (cur.set (cur.length - 1) y)) rfl (Hst.out.alloc _) (some ⟨wr.heap.size, 0, none⟩) 1 1 [vb fill] rfl rfl (fun h => by cases h) (news_one (by simp) _ _) (vbs_one [_]) ?_ (by decide) ?_ ?_))
          · omega
          · have := Hfr.out.size; simp; omega
          intro a2 c2 w2 ho2 hf2 hg2
          obtain ⟨g2, c3, hv2, -, hn2, hm2⟩ := own_some ho2 (by omega)
          obtain ⟨rfl, rfl⟩ : a2 = some ⟨g2, 0, none⟩ ∧ c2 = c3 := by simpa using hv2
          have Ho2 := Lib.hid ho2
          have Hf2 := Lib.hid hf2
          unfold maxLen at hm2
          clear ho2 hf2 hg2 hv2
          go_wp2
          go_roundw
          case rel =>
            refine ⟨k + 1, cur.set (cur.length - 1) y ++ [fill], g2, c2, by omega, by go_num, by simp, ?_, by simp, by simpa using hn2, by omega, ?_, ?_, ?_⟩
            · have := Hcl.out; simp; omega
            · rw [← Hpad.out, show more - k = (more - (k + 1)) + 1 by omega, padN, ← HX.out, Hy.out]
            · simpa using Ho2.out
            · refine ((Hfr.out.setCell (.inr ?_) _).alloc _).app Hst.out (Nat.le_refl _) Hf2.out
              exact own_ge Hown.out (by rfl)
          case measure => simp [intOf]; omega
        · obtain rfl : k = more := by omega
          clear hlt
          go_wp2
          go_ret
          have e : cur = padN fill k l := by rw [← Hpad.out, Nat.sub_self]; rfl
          subst e
          exact ⟨_, _, rfl, Hown.out, Hfr.out⟩
    · have t1 : (bits .and .u8 ((last.toNat : Nat) : Int) 64 != 0) = false := by rw [bit6]; rw [bne_eq_false_iff_eq]; omega
      have Hf : Hid (.int .u8 0 = vb fill) := by rw [hf]; rfl
      clear Hfill' hf
      go_wp2_with fail
      clear t1
      revert Hf
      generalize Value.int .u8 0 = fv
      intro Hf
      obtain rfl := Hf.out
      clear Hf
      clear h hcell hi0 hi1
      generalize hgg : g = g0 at *
      clear hgg
      go_loopw [7, 24] (fun o i wr => ∃ k : Nat, ∃ cur : List UInt8, ∃ gc cc : Nat, k ≤ more ∧ i = .int .i64 (k : Int) ∧ 0 < cur.length ∧ cur.length = l.length + k ∧ o = .slice (some ⟨gc, 0, none⟩) cur.length cc ∧ cur.length ≤ cc ∧ cc ≤ 9223372036854775807 ∧
          padN fill (more - k) cur = padN fill more l ∧ wr.ownsRow w.heap.size 5 1 (.slice (some ⟨gc, 0, none⟩) cur.length cc) cur.length (vbs cur) ∧ Fr [] w wr) (fun _ i _ => more - (intOf i).toNat)
      case atStart => exact ⟨0, l, g0, c', Nat.zero_le _, rfl, hne, rfl, rfl, hlc, hcm, rfl, Ho1.out, hs.out⟩
      case round =>
        clear hgb hlc hcm HX Ho1 Hf1 hs
        obtain ⟨k, cur, gc, cc, hk, rfl, hcur, hcl, rfl, hcc, hccm, hpad, hown, hfr⟩ := hrel
        have Hown := Lib.hid hown
        have Hfr := Lib.hid hfr
        have Hpad := Lib.hid hpad
        have Hcl := Lib.hid hcl
        clear hown hfr hpad
        by_cases hlt : k < more
        · obtain ⟨x, hx⟩ : ∃ x, x = cur.getD (cur.length - 1) 0 := ⟨_, rfl⟩
          have hcell := Hown.out.cellAt (cur.length - 1) (by omega)
          have hxx : (vbs cur)[cur.length - 1]? = some (.int .u8 ((x.toNat : Nat) : Int)) := by
            rw [hx]; simp [List.getD, List.getElem?_eq_getElem (show cur.length - 1 < cur.length by omega)]
          rw [hxx] at hcell
          have hfz := Hown.out.frozenAt (cur.length - 1)
          have hor := or_hi x
          have HX := Lib.hid hx
          have hi0 : (0 : Int) ≤ (cur.length : Int) - 1 := by omega
          have hi1 : ((cur.length : Int) - 1).toNat = cur.length - 1 := by omega
          have hset : (vbs cur).set (cur.length - 1) (vb (hi x)) = vbs (cur.set (cur.length - 1) (hi x)) := by simp [List.map_set]
          have Hst : Hid ((wr.setCell ⟨gc, cur.length - 1, none⟩ (vb (hi x))).ownsRow w.heap.size 5 1 (.slice (some ⟨gc, 0, none⟩) cur.length cc) cur.length (vbs (cur.set (cur.length - 1) (hi x)))) := by
            have := (Hown.out.stored (cur.length - 1) (vb (hi x))).1
            rw [hset] at this; exact this
          clear hx hxx hset
          have hmore : (k : Int) < more := by omega
          have hclb : cur.length ≤ 20 := by omega
          clear hcl
          generalize hy : hi x = y at *
          have Hy := Lib.hid hy
          clear hy
          go_wp2_with (at_builtin; go_must (refine wpList_app sliceB _ rfl _ _ rfl w.heap.size _ cur.length (vbs (cur.set (cur.length - 1) y)) rfl (Hst.out.alloc _) (some ⟨wr.heap.size, 0, none⟩) 1 1 [vb fill] rfl rfl (fun h => by cases h) (news_one (by simp) _ _) (vbs_one [_]) ?_ (by decide) ?_ ?_))
          · omega
          · have := Hfr.out.size; simp; omega
          intro a2 c2 w2 ho2 hf2 hg2
          obtain ⟨g2, c3, hv2, -, hn2, hm2⟩ := own_some ho2 (by omega)
          obtain ⟨rfl, rfl⟩ : a2 = some ⟨g2, 0, none⟩ ∧ c2 = c3 := by simpa using hv2
          have Ho2 := Lib.hid ho2
          have Hf2 := Lib.hid hf2
          unfold maxLen at hm2
          clear ho2 hf2 hg2 hv2
          go_wp2
          go_roundw
          case rel =>
            refine ⟨k + 1, cur.set (cur.length - 1) y ++ [fill], g2, c2, by omega, by go_num, by simp, ?_, by simp, by simpa using hn2, by omega, ?_, ?_, ?_⟩
            · have := Hcl.out; simp; omega
            · rw [← Hpad.out, show more - k = (more - (k + 1)) + 1 by omega, padN, ← HX.out, Hy.out]
            · simpa using Ho2.out
            · refine ((Hfr.out.setCell (.inr ?_) _).alloc _).app Hst.out (Nat.le_refl _) Hf2.out
              exact own_ge Hown.out (by rfl)
          case measure => simp [intOf]; omega
        · obtain rfl : k = more := by omega
          clear hlt
          go_wp2
          go_ret
          have e : cur = padN fill k l := by rw [← Hpad.out, Nat.sub_self]; rfl
          subst e
          exact ⟨_, _, rfl, Hown.out, Hfr.out⟩
    · have t1 : (bits .and .u8 ((last.toNat : Nat) : Int) 64 != 0) = true := by rw [bit6]; rw [bne_iff_ne]; omega
      have Hf : Hid (.int .u8 127 = vb fill) := by rw [hf]; rfl
      clear Hfill' hf
      go_wp2_with fail
      clear t1
      revert Hf
      generalize Value.int .u8 127 = fv
      intro Hf
      obtain rfl := Hf.out
      clear Hf
      clear h hcell hi0 hi1
      generalize hgg : g = g0 at *
      clear hgg
      go_loopw [7, 24] (fun o i wr => ∃ k : Nat, ∃ cur : List UInt8, ∃ gc cc : Nat, k ≤ more ∧ i = .int .i64 (k : Int) ∧ 0 < cur.length ∧ cur.length = l.length + k ∧ o = .slice (some ⟨gc, 0, none⟩) cur.length cc ∧ cur.length ≤ cc ∧ cc ≤ 9223372036854775807 ∧
          padN fill (more - k) cur = padN fill more l ∧ wr.ownsRow w.heap.size 5 1 (.slice (some ⟨gc, 0, none⟩) cur.length cc) cur.length (vbs cur) ∧ Fr [] w wr) (fun _ i _ => more - (intOf i).toNat)
      case atStart => exact ⟨0, l, g0, c', Nat.zero_le _, rfl, hne, rfl, rfl, hlc, hcm, rfl, Ho1.out, hs.out⟩
      case round =>
        clear hgb hlc hcm HX Ho1 Hf1 hs
        obtain ⟨k, cur, gc, cc, hk, rfl, hcur, hcl, rfl, hcc, hccm, hpad, hown, hfr⟩ := hrel
        have Hown := Lib.hid hown
        have Hfr := Lib.hid hfr
        have Hpad := Lib.hid hpad
        have Hcl := Lib.hid hcl
        clear hown hfr hpad
        by_cases hlt : k < more
        · obtain ⟨x, hx⟩ : ∃ x, x = cur.getD (cur.length - 1) 0 := ⟨_, rfl⟩
          have hcell := Hown.out.cellAt (cur.length - 1) (by omega)
          have hxx : (vbs cur)[cur.length - 1]? = some (.int .u8 ((x.toNat : Nat) : Int)) := by
            rw [hx]; simp [List.getD, List.getElem?_eq_getElem (show cur.length - 1 < cur.length by omega)]
          rw [hxx] at hcell
          have hfz := Hown.out.frozenAt (cur.length - 1)
          have hor := or_hi x
          have HX := Lib.hid hx
          have hi0 : (0 : Int) ≤ (cur.length : Int) - 1 := by omega
          have hi1 : ((cur.length : Int) - 1).toNat = cur.length - 1 := by omega
          have hset : (vbs cur).set (cur.length - 1) (vb (hi x)) = vbs (cur.set (cur.length - 1) (hi x)) := by simp [List.map_set]
          have Hst : Hid ((wr.setCell ⟨gc, cur.length - 1, none⟩ (vb (hi x))).ownsRow w.heap.size 5 1 (.slice (some ⟨gc, 0, none⟩) cur.length cc) cur.length (vbs (cur.set (cur.length - 1) (hi x)))) := by
            have := (Hown.out.stored (cur.length - 1) (vb (hi x))).1
            rw [hset] at this; exact this
          clear hx hxx hset
          have hmore : (k : Int) < more := by omega
          have hclb : cur.length ≤ 20 := by omega
          clear hcl
          generalize hy : hi x = y at *
          have Hy := Lib.hid hy
          clear hy
          go_wp2_with (at_builtin; go_must (refine wpList_app sliceB _ rfl _ _ rfl w.heap.size _ cur.length (vbs (cur.set (cur.length - 1) y)) rfl (Hst.out.alloc _) (some ⟨wr.heap.size, 0, none⟩) 1 1 [vb fill] rfl rfl (fun h => by cases h) (news_one (by simp) _ _) (vbs_one [_]) ?_ (by decide) ?_ ?_))
          · omega
          · have := Hfr.out.size; simp; omega
          intro a2 c2 w2 ho2 hf2 hg2
          obtain ⟨g2, c3, hv2, -, hn2, hm2⟩ := own_some ho2 (by omega)
          obtain ⟨rfl, rfl⟩ : a2 = some ⟨g2, 0, none⟩ ∧ c2 = c3 := by simpa using hv2
          have Ho2 := Lib.hid ho2
          have Hf2 := Lib.hid hf2
          unfold maxLen at hm2
          clear ho2 hf2 hg2 hv2
          go_wp2
          go_roundw
          case rel =>
            refine ⟨k + 1, cur.set (cur.length - 1) y ++ [fill], g2, c2, by omega, by go_num, by simp, ?_, by simp, by simpa using hn2, by omega, ?_, ?_, ?_⟩
            · have := Hcl.out; simp; omega
            · rw [← Hpad.out, show more - k = (more - (k + 1)) + 1 by omega, padN, ← HX.out, Hy.out]
            · simpa using Ho2.out
            · refine ((Hfr.out.setCell (.inr ?_) _).alloc _).app Hst.out (Nat.le_refl _) Hf2.out
              exact own_ge Hown.out (by rfl)
          case measure => simp [intOf]; omega
        · obtain rfl : k = more := by omega
          clear hlt
          go_wp2
          go_ret
          have e : cur = padN fill k l := by rw [← Hpad.out, Nat.sub_self]; rfl
          subst e
          exact ⟨_, _, rfl, Hown.out, Hfr.out⟩
end Go.Proofs.Ytahohmdfllgedaa
