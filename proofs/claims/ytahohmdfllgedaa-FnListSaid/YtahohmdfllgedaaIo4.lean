/- ReadUintRaw; Buffer.Next. -/
import Derived.Test.YtahohmdfllgedaaIo3
namespace Go.Proofs.Ytahohmdfllgedaa
open Go.RowKit

set_option maxRecDepth 100000 in
set_option maxHeartbeats 4000000 in
theorem ReadUintRaw_2 (k : Bool) (b : Nat) (v : Value) (l : List UInt8) (off : Nat) (w : World) (h : SrcR k w b v l off) (hl : off + 2 ≤ l.length) (hb : b < w.heap.size) (hv : ∀ g, v.ownBlock = some g → g < w.heap.size) :
    Calls Try.prog 124 #[srcV k b, .iface 95 (.agg #[]), .int .i64 2] w fun e w' =>
      e = .returned (.tuple #[.int .u64 ((leval ((l.drop off).take 2) : Nat) : Int), .nilIface]) ∧ SrcR k w' b v l (off + 2) ∧ Fr [b] w w' := by
  have H := Lib.hid h
  have Hv := Lib.hid hv
  have hx := leval_lt ((l.drop off).take 2)
  rw [show ((l.drop off).take 2).length = 2 by rw [List.length_take, List.length_drop]; omega] at hx
  obtain ⟨val, hval⟩ : ∃ val, leval ((l.drop off).take 2) = val := ⟨_, rfl⟩
  rw [hval] at hx ⊢
  have hx2 : (val : Int) < 65536 := by omega
  have hx3 : (0 : Int) ≤ (val : Int) := by omega
  have Hval := Lib.hid hval
  clear h hv hval hx
  go_enter Try.func124, Try.ntmps124
  go_wp2_with (go_at_call 82; go_must (refine (ReadFixed_u16 k b v l off w.heap.size 0 #[.int .u16 0] 198 0 _ (H.out.fr ((Fr.refl [] w).alloc _) (by simp) (by simp)) hl (blk_new w _) (by rfl) (by omega) (by simp; omega) (fun g hg => by have := Hv.out g hg; simp; omega)).mono ?_); rw [Hval.out])
  rintro e w2 ⟨rfl, hb2, hp2, hf2⟩
  have hq2 : w2.heap[w.heap.size]? = some (.cells #[.int .u16 (val : Int)] 198 (0, 0)) := by simpa using hp2
  have c0 : w2.cell? ⟨w.heap.size, 0, none⟩ = some (.int .u16 (val : Int)) := by rw [blk_cell hq2]; rfl
  have Hb2 := Lib.hid hb2
  have Hf2 : Hid (Fr [b] w w2) := ((Fr.refl [b] w).alloc _).trans hf2 (by intro i hi hlt; simp at hi hlt; rcases hi with rfl | rfl; simp; omega)
  clear hb2 hp2 hf2 hq2
  go_wp2_with fail
  go_ret2
  exact ⟨rfl, Hb2.out, Hf2.out⟩

set_option maxRecDepth 100000 in
set_option maxHeartbeats 4000000 in
theorem ReadUintRaw_4 (k : Bool) (b : Nat) (v : Value) (l : List UInt8) (off : Nat) (w : World) (h : SrcR k w b v l off) (hl : off + 4 ≤ l.length) (hb : b < w.heap.size) (hv : ∀ g, v.ownBlock = some g → g < w.heap.size) :
    Calls Try.prog 124 #[srcV k b, .iface 95 (.agg #[]), .int .i64 4] w fun e w' =>
      e = .returned (.tuple #[.int .u64 ((leval ((l.drop off).take 4) : Nat) : Int), .nilIface]) ∧ SrcR k w' b v l (off + 4) ∧ Fr [b] w w' := by
  have H := Lib.hid h
  have Hv := Lib.hid hv
  have hx := leval_lt ((l.drop off).take 4)
  rw [show ((l.drop off).take 4).length = 4 by rw [List.length_take, List.length_drop]; omega] at hx
  obtain ⟨val, hval⟩ : ∃ val, leval ((l.drop off).take 4) = val := ⟨_, rfl⟩
  rw [hval] at hx ⊢
  have hx2 : (val : Int) < 4294967296 := by omega
  have hx3 : (0 : Int) ≤ (val : Int) := by omega
  have Hval := Lib.hid hval
  clear h hv hval hx
  go_enter Try.func124, Try.ntmps124
  go_wp2_with (go_at_call 82; go_must (refine (ReadFixed_u32 k b v l off w.heap.size 0 #[.int .u32 0] 72 0 _ (H.out.fr ((Fr.refl [] w).alloc _) (by simp) (by simp)) hl (blk_new w _) (by rfl) (by omega) (by simp; omega) (fun g hg => by have := Hv.out g hg; simp; omega)).mono ?_); rw [Hval.out])
  rintro e w2 ⟨rfl, hb2, hp2, hf2⟩
  have hq2 : w2.heap[w.heap.size]? = some (.cells #[.int .u32 (val : Int)] 72 (0, 0)) := by simpa using hp2
  have c0 : w2.cell? ⟨w.heap.size, 0, none⟩ = some (.int .u32 (val : Int)) := by rw [blk_cell hq2]; rfl
  have Hb2 := Lib.hid hb2
  have Hf2 : Hid (Fr [b] w w2) := ((Fr.refl [b] w).alloc _).trans hf2 (by intro i hi hlt; simp at hi hlt; rcases hi with rfl | rfl; simp; omega)
  clear hb2 hp2 hf2 hq2
  go_wp2_with fail
  go_ret2
  exact ⟨rfl, Hb2.out, Hf2.out⟩

set_option maxRecDepth 100000 in
set_option maxHeartbeats 4000000 in
theorem ReadUintRaw_8 (k : Bool) (b : Nat) (v : Value) (l : List UInt8) (off : Nat) (w : World) (h : SrcR k w b v l off) (hl : off + 8 ≤ l.length) (hb : b < w.heap.size) (hv : ∀ g, v.ownBlock = some g → g < w.heap.size) :
    Calls Try.prog 124 #[srcV k b, .iface 95 (.agg #[]), .int .i64 8] w fun e w' =>
      e = .returned (.tuple #[.int .u64 ((leval ((l.drop off).take 8) : Nat) : Int), .nilIface]) ∧ SrcR k w' b v l (off + 8) ∧ Fr [b] w w' := by
  have H := Lib.hid h
  have Hv := Lib.hid hv
  have hx := leval_lt ((l.drop off).take 8)
  rw [show ((l.drop off).take 8).length = 8 by rw [List.length_take, List.length_drop]; omega] at hx
  obtain ⟨val, hval⟩ : ∃ val, leval ((l.drop off).take 8) = val := ⟨_, rfl⟩
  rw [hval] at hx ⊢
  have hx2 : (val : Int) < 18446744073709551616 := by omega
  have hx3 : (0 : Int) ≤ (val : Int) := by omega
  have Hval := Lib.hid hval
  clear h hv hval hx
  go_enter Try.func124, Try.ntmps124
  go_wp2_with (go_at_call 82; go_must (refine (ReadFixed_u64 k b v l off w.heap.size 0 #[.int .u64 0] 22 0 _ (H.out.fr ((Fr.refl [] w).alloc _) (by simp) (by simp)) hl (blk_new w _) (by rfl) (by omega) (by simp; omega) (fun g hg => by have := Hv.out g hg; simp; omega)).mono ?_); rw [Hval.out])
  rintro e w2 ⟨rfl, hb2, hp2, hf2⟩
  have hq2 : w2.heap[w.heap.size]? = some (.cells #[.int .u64 (val : Int)] 22 (0, 0)) := by simpa using hp2
  have c0 : w2.cell? ⟨w.heap.size, 0, none⟩ = some (.int .u64 (val : Int)) := by rw [blk_cell hq2]; rfl
  have Hb2 := Lib.hid hb2
  have Hf2 : Hid (Fr [b] w w2) := ((Fr.refl [b] w).alloc _).trans hf2 (by intro i hi hlt; simp at hi hlt; rcases hi with rfl | rfl; simp; omega)
  clear hb2 hp2 hf2 hq2
  go_wp2_with fail
  go_ret2
  exact ⟨rfl, Hb2.out, Hf2.out⟩

set_option maxRecDepth 100000 in
set_option maxHeartbeats 4000000 in
/-- Next, where so many bytes are left. -/
theorem BufNext_any (b : Nat) (v : Value) (l : List UInt8) (off m : Nat) (rd : Bool) (w : World) (h : BufR w b v l off rd) (hm : off + m ≤ l.length) (hp : 0 < l.length) :
    Calls Try.prog 115 #[.pointer (some ⟨b, 0, none⟩), .int .i64 (m : Int)] w fun e w' =>
      (∃ a c, e = .returned (.slice a m c) ∧ Sl w' (.slice a m c) (vbs ((l.drop off).take m)) ∧ (∀ g, (Value.slice a m c).ownBlock = some g → v.ownBlock = some g)) ∧ BufR w' b v l (off + m) (decide (0 < m)) ∧ Fr [b] w w' := by
  obtain ⟨hb, hs, hne, -, hl⟩ := h
  obtain ⟨a, cc, rfl, h1, h2, h3, h4⟩ := hs.shape
  obtain ⟨gs, os, rfl, hc⟩ := h3 hp
  unfold maxLen at h2
  have c2 : w.cell? ⟨b, 2, none⟩ = some (.bool rd) := by rw [blk_cell hb]; rfl
  have f2 : w.frozen? ⟨b, 2, none⟩ = false := blk_free hb _
  have hb1 : (w.setCell ⟨b, 2, none⟩ (.bool false)).heap[b]? = some (.cells #[.slice (some ⟨gs, os, none⟩) l.length cc, .int .i64 (off : Int), .bool false] 79 (0, 0)) := by simpa using blk_set hb 2 (.bool false)
  have hF1 : Fr [b] w (w.setCell ⟨b, 2, none⟩ (.bool false)) := (Fr.refl _ _).setCell (.inl (by simp)) _
  have hs1 : Sl (w.setCell ⟨b, 2, none⟩ (.bool false)) (.slice (some ⟨gs, os, none⟩) l.length cc) (vbs l) := hs.fr hF1 (by intro g hg; simp; rintro rfl; exact hne hg)
  have hB1 : BufR (w.setCell ⟨b, 2, none⟩ (.bool false)) b (.slice (some ⟨gs, os, none⟩) l.length cc) l off false := ⟨hb1, hs1, hne, by omega, hl⟩
  generalize hw1 : w.setCell ⟨b, 2, none⟩ (.bool false) = w1 at *
  have c0 : w1.cell? ⟨b, 0, none⟩ = some (.slice (some ⟨gs, os, none⟩) l.length cc) := by rw [blk_cell hb1]; rfl
  have c1 : w1.cell? ⟨b, 1, none⟩ = some (.int .i64 (off : Int)) := by rw [blk_cell hb1]; rfl
  have HB1 := Lib.hid hB1
  have Hb1 := Lib.hid hb1
  have HF1 := Lib.hid hF1
  have Hs1 := Lib.hid hs1
  have Hw1 := Lib.hid hw1
  have Hne := Lib.hid hne
  have hlo : ¬ ((l.length - off : Nat) : Int) < (m : Int) := by omega
  have t1 : (off : Int) + (m : Int) ≤ (l.length : Int) := by omega
  have t2 : (off : Int) + (m : Int) ≤ (cc : Int) := by omega
  have t3 : (off : Int) ≤ (off : Int) + (m : Int) := by omega
  have Hc : Hid (Cells w1 gs (os + off) (vbs ((l.drop off).take m))) := drop_take_cells (hc.fr HF1.out (by simpa [Value.ownBlock] using hne)) off m
  have Hml : Hid (((l.drop off).take m).length = m) := by show _ = _; rw [List.length_take, List.length_drop]; omega
  have hlen : (off : Int) ≤ (l.length : Int) := by omega
  have hcap : (off : Int) ≤ (cc : Int) := by omega
  have hof : (off : Int) ≤ 1099511627776 := by omega
  have t0 : (0 : Int) ≤ (m : Int) := by omega
  have e1 : IntKind.i64.wrap ((off : Int) + (m : Int)) = (off : Int) + (m : Int) := IntWalk.i64_in _ (by omega)
  have e2 : ((off : Int) + (m : Int)).toNat = off + m := by omega
  have e3 : off + m - off = m := by omega
  have E1 := Lib.hid e1
  have E2 := Lib.hid e2
  have E3 := Lib.hid e3
  clear e1 e2 e3 hb hs hne h1 h3 h4 hb1 hF1 hs1 hB1 hw1 hc
  have d2 : w1.cell? ⟨b, 2, none⟩ = some (.bool false) := by rw [blk_cell Hb1.out]; rfl
  have g1 : w1.frozen? ⟨b, 1, none⟩ = false := blk_free Hb1.out _
  have g2 : w1.frozen? ⟨b, 2, none⟩ = false := blk_free Hb1.out _
  have fin : ∀ k (wz : World), wz = ((w1.drewN k).setCell ⟨b, 1, none⟩ (.int .i64 ((off : Int) + (m : Int)))).setCell ⟨b, 2, none⟩ (.bool (decide (0 < m))) →
      BufR wz b (.slice (some ⟨gs, os, none⟩) l.length cc) l (off + m) (decide (0 < m)) ∧ Fr [b] w wz ∧ Fr [b] w1 wz := by
    intro k wz hz
    subst hz
    have f : Fr [b] w1 (((w1.drewN k).setCell ⟨b, 1, none⟩ (.int .i64 ((off : Int) + (m : Int)))).setCell ⟨b, 2, none⟩ (.bool (decide (0 < m)))) := (((Fr.refl _ _).drewN _).setCell (.inl (by simp)) _).setCell (.inl (by simp)) _
    refine ⟨⟨?_, Hs1.out.fr f (by intro g hg; simp; rintro rfl; exact Hne.out hg), Hne.out, by omega, hl⟩, HF1.out.trans f (fun i h _ => h), f⟩
    simpa using blk_set (w := (w1.drewN k).setCell ⟨b, 1, none⟩ (.int .i64 ((off : Int) + (m : Int)))) (blk_set (w := w1.drewN k) Hb1.out 1 _) 2 (.bool (decide (0 < m)))
  have Fin := Lib.hid fin
  clear fin
  have hne2 : gs ∉ [b] := by have := Hne.out; simpa [Value.ownBlock] using this
  have Hne2 := Lib.hid hne2
  clear hne2
  by_cases hcc : cc = off
  · subst hcc
    have e1 := E1.out
    have e2 := E2.out
    go_enter Try.func115, Try.ntmps115
    go_wp2_with (go_at_call 69; rw [Hw1.out]; refine (BufLen_any b _ l cc (l.length - cc) false _ HB1.out (by omega)).mono ?_; rintro e w' ⟨rfl, k, rfl⟩)
    go_quiet (fail)
    go_wp2_with fail
    go_ret
    obtain ⟨q1, q2, q3⟩ := Fin.out (k + nq) _ rfl
    refine ⟨⟨_, _, rfl, ?_, fun g hg => hg⟩, q1, q2⟩
    have hz : (l.drop cc).take m = [] := List.eq_nil_of_length_eq_zero (by rw [Hml.out]; omega)
    rw [hz]
    exact sl_mk (by simp; omega) (by omega) (by unfold maxLen; omega) (fun i v hi => by simp at hi)
  · have e1 := E1.out
    have e2 := E2.out
    go_enter Try.func115, Try.ntmps115
    go_wp2_with (go_at_call 69; rw [Hw1.out]; refine (BufLen_any b _ l off (l.length - off) false _ HB1.out (by omega)).mono ?_; rintro e w' ⟨rfl, k, rfl⟩)
    go_quiet (fail)
    go_wp2_with fail
    go_ret
    obtain ⟨q1, q2, q3⟩ := Fin.out (k + nq) _ rfl
    refine ⟨⟨_, _, rfl, ?_, fun g hg => hg⟩, q1, q2⟩
    exact sl_mk (by rw [List.length_map, Hml.out]) (by omega) (by unfold maxLen; omega) (Hc.out.fr q3 Hne2.out)

end Go.Proofs.Ytahohmdfllgedaa
