/- The plain reader's calls; readFull, ReadFixed, ReadUintRaw. -/
import Derived.Test.YtahohmdfllgedaaIo
namespace Go.Proofs.Ytahohmdfllgedaa
open Go.RowKit

set_option maxHeartbeats 400000 in
theorem NewReader_any (a : Option Addr) (n c : Nat) (w : World) :
    Calls Try.prog 119 #[.slice a n c] w fun e w' => e = .returned (.pointer (some ⟨w.heap.size, 0, none⟩)) ∧ w' = w.alloc (.cells #[.slice a n c, .int .i64 0] 220 (0, 0)) := by
  go_enter Try.func119, Try.ntmps119
  go_wp2_with fail
  go_ret
  exact ⟨rfl, rfl⟩
theorem RdrR_new {w : World} {v : Value} {l : List UInt8} (h : Sl w v (vbs l)) (hlt : ∀ g, v.ownBlock = some g → g < w.heap.size) (hl : l.length ≤ 1099511627776) : RdrR (w.alloc (.cells #[v, .int .i64 0] 220 (0, 0))) w.heap.size v l 0 :=
  ⟨blk_new _ _, h.fr ((Fr.refl [] w).alloc _) (by simp), (fun hg => by have := hlt _ hg; omega), Nat.zero_le _, hl⟩
theorem RdrR.fr {bs : List Nat} {w w' : World} {b : Nat} {v : Value} {l : List UInt8} {off : Nat} (h : RdrR w b v l off) (f : Fr bs w w') (hb : b ∉ bs)
    (hv : ∀ g, v.ownBlock = some g → g ∉ bs) : RdrR w' b v l off :=
  ⟨f.get h.1 hb, h.2.1.fr f hv, h.2.2⟩
theorem SrcR.fr {k : Bool} {bs : List Nat} {w w' : World} {b : Nat} {v : Value} {l : List UInt8} {off : Nat} (h : SrcR k w b v l off) (f : Fr bs w w') (hb : b ∉ bs)
    (hv : ∀ g, v.ownBlock = some g → g ∉ bs) : SrcR k w' b v l off := by
  cases k
  · exact RdrR.fr h f hb hv
  · obtain ⟨rd, h⟩ := h; exact ⟨rd, h.fr f hb hv⟩

set_option maxRecDepth 100000 in
set_option maxHeartbeats 2000000 in
theorem RdrSeek_zero (b : Nat) (v : Value) (l : List UInt8) (off : Nat) (w : World) (h : RdrR w b v l off) :
    Calls Try.prog 121 #[.pointer (some ⟨b, 0, none⟩), .int .i64 0, .int .i64 1] w fun e w' =>
      e = .returned (.tuple #[.int .i64 (off : Int), .nilIface]) ∧ RdrR w' b v l off ∧ Fr [b] w w' := by
  obtain ⟨hb, hs, hne, ho, hl⟩ := h
  have c1 : w.cell? ⟨b, 1, none⟩ = some (.int .i64 (off : Int)) := by rw [blk_cell hb]; rfl
  have f1 : w.frozen? ⟨b, 1, none⟩ = false := blk_free hb _
  have hoff : (off : Int) ≤ 1099511627776 := by omega
  have Hb := Lib.hid hb
  have Hs := Lib.hid hs
  have Hne := Lib.hid hne
  clear hb hs hne
  go_enter Try.func121, Try.ntmps121
  go_wp2_with fail
  go_ret2
  have hf : Fr [b] w (w.setCell ⟨b, 1, none⟩ (.int .i64 (off : Int))) := (Fr.refl _ _).setCell (.inl (by simp)) _
  exact ⟨rfl, ⟨by simpa using blk_set Hb.out 1 (.int .i64 (off : Int)), Hs.out.fr hf (by intro g hg; simp; rintro rfl; exact Hne.out hg), Hne.out, ho, hl⟩, hf⟩

set_option maxRecDepth 100000 in
set_option maxHeartbeats 2000000 in
theorem RdrRead_any (b : Nat) (v : Value) (l : List UInt8) (off : Nat) (g m c : Nat) (cur : Array Value) (w : World) (h : RdrR w b v l off) (hm : 0 < m) (ho : off + m ≤ l.length)
    (hg : w.heap[g]? = some (.cells cur 5 (0, 0))) (hcur : cur.size = m) (hgb : g ≠ b) (hgv : v.ownBlock ≠ some g) :
    Calls Try.prog 158 #[.pointer (some ⟨b, 0, none⟩), .slice (some ⟨g, 0, none⟩) m c] w fun e w' =>
      e = .returned (.tuple #[.int .i64 (m : Int), .nilIface]) ∧ RdrR w' b v l (off + m) ∧ w'.heap[g]? = some (.cells (vbs ((l.drop off).take m)).toArray 5 (0, 0)) ∧ Fr [b, g] w w' := by
  obtain ⟨hb, hs, hne, -, hl⟩ := h
  obtain ⟨a, cc, rfl, h1, h2, h3, -⟩ := hs.shape
  obtain ⟨gs, os, rfl, hc⟩ := h3 (by omega)
  have hne' : Hid (gs ≠ b) := by show gs ≠ b; simpa [Value.ownBlock] using hne
  have hgv' : Hid (gs ≠ g) := by show gs ≠ g; simpa [Value.ownBlock] using hgv
  have hgb' := Lib.hid hgb
  unfold maxLen at h2
  have c0 : w.cell? ⟨b, 0, none⟩ = some (.slice (some ⟨gs, os, none⟩) l.length cc) := by rw [blk_cell hb]; rfl
  have c1 : w.cell? ⟨b, 1, none⟩ = some (.int .i64 (off : Int)) := by rw [blk_cell hb]; rfl
  have Hc : Hid (Cells w gs (os + off) (vbs ((l.drop off).take m))) := drop_take_cells hc off m
  have Hg1 := Lib.hid hg
  have Hb1 := Lib.hid hb
  have Hcur := Lib.hid hcur
  have Hs := Lib.hid hs
  have Hml : Hid (((l.drop off).take m).length = m) := by show _ = _; rw [List.length_take, List.length_drop]; omega
  have hlen : (off : Int) ≤ (l.length : Int) := by omega
  have hcap : (off : Int) ≤ (cc : Int) := by omega
  have hcap2 : ¬ cc = off := by omega
  have hlo : m ≤ l.length - off := by omega
  have hoff : ¬ (l.length : Int) ≤ (off : Int) := by omega
  have hoff2 : decide ((l.length : Int) ≤ (off : Int)) = false := by simpa using hoff
  clear hb hs hne h1 h3 hgb hgv hc hg hcur
  go_enter Try.func158, Try.ntmps158
  go_wp2_with fail
  go_quiet (fail)
  go_wp2_with fail
  go_region_held3 (fun w' => w'.cell? ⟨b, 0, none⟩ = some (.slice (some ⟨gs, os, none⟩) l.length cc) ∧ w'.cell? ⟨b, 1, none⟩ = some (.int .i64 (off : Int)))
    (first | exact ⟨HF2.out.cell c0 (by simpa using hgb'.out.symm), HF2.out.cell c1 (by simpa using hgb'.out.symm)⟩ | exact ⟨c0, c1⟩)
    ((refine copy_step (by rfl) _ _ (by rfl) g c (some ⟨gs, os + off, none⟩) m (l.length - off) (cc - off) (by rfl) (by rfl) cur Hg1.out Hcur.out _ Hml.out hlo ⟨gs, os + off, none⟩ (by rfl) (fun j v hj => by rw [Addr.add_lit]; exact Hc.out j v hj) ?_; intro w2 hg2 hf2; have Hg2 := Lib.hid hg2; have HF2 : Hid (Fr [g] w w2) := ⟨hf2.os, hf2.tape, hf2.output, hf2.size, hf2.blk⟩; clear hg2 hf2))
  all_goals
    have hb2 : w2.heap[b]? = some (.cells #[.slice (some ⟨gs, os, none⟩) l.length cc, .int .i64 (off : Int)] 220 (0, 0)) := HF2.out.get Hb1.out (by simpa using hgb'.out.symm)
    have d1 : w2.cell? ⟨b, 1, none⟩ = some (.int .i64 (off : Int)) := by rw [blk_cell hb2]; rfl
    have e1 : w2.frozen? ⟨b, 1, none⟩ = false := blk_free hb2 _
    have Hb2 := Lib.hid hb2
    clear hb2 c0 c1
    go_wp2
    go_ret2
    refine ⟨rfl, ⟨?_, ?_, by simpa [Value.ownBlock] using hne'.out, by omega, hl⟩, ?_, ?_⟩
    · simpa using blk_set (w := w2) Hb2.out 1 (.int .i64 ((off : Int) + m))
    · refine Hs.out.fr (bs := [b, g]) ((HF2.out.mono (bs := [b, g]) (by simp)).setCell (.inl (by simp)) _) ?_
      intro g' hg'; simp [Value.ownBlock] at hg'; subst hg'; simpa using ⟨hne'.out, hgv'.out⟩
    · have := blk_set_other Hg2.out (i := 1) (u := .int .i64 ((off : Int) + m)) hgb'.out
      simpa using this
    · exact (HF2.out.mono (bs := [b, g]) (by simp)).setCell (.inl (by simp)) _

theorem nilahead_buf (b : Nat) (w : World) : (nilAhead 337 75 (.pointer (some ⟨b, 0, none⟩)) "Read").run Try.prog w = .ok (some false) w := by kernel_rfl
theorem nilahead_rdr (b : Nat) (w : World) : (nilAhead 337 207 (.pointer (some ⟨b, 0, none⟩)) "Read").run Try.prog w = .ok (some false) w := by kernel_rfl
theorem m_BufRead (b : Nat) (w : World) : (method 337 75 (.pointer (some ⟨b, 0, none⟩)) "Read").run Try.prog w = .ok (128, .pointer (some ⟨b, 0, none⟩)) w := by kernel_rfl
theorem m_RdrRead (b : Nat) (w : World) : (method 337 207 (.pointer (some ⟨b, 0, none⟩)) "Read").run Try.prog w = .ok (158, .pointer (some ⟨b, 0, none⟩)) w := by kernel_rfl

set_option maxRecDepth 100000 in
set_option maxHeartbeats 2000000 in
theorem readFull_buf (b : Nat) (v : Value) (l : List UInt8) (off : Nat) (rd : Bool) (g m c : Nat) (cur : Array Value) (w : World) (h : BufR w b v l off rd) (hm : 0 < m) (hmc : m ≤ c) (hcm : c ≤ 1099511627776) (ho : off + m ≤ l.length)
    (hg : w.heap[g]? = some (.cells cur 5 (0, 0))) (hcur : cur.size = m) (hgb : g ≠ b) (hgv : v.ownBlock ≠ some g) :
    Calls Try.prog 113 #[.iface 75 (.pointer (some ⟨b, 0, none⟩)), .slice (some ⟨g, 0, none⟩) m c] w fun e w' =>
      e = .returned (.tuple #[.int .i64 (m : Int), .nilIface]) ∧ BufR w' b v l (off + m) true ∧ w'.heap[g]? = some (.cells (vbs ((l.drop off).take m)).toArray 5 (0, 0)) ∧ Fr [b, g] w w' := by
  have h1 := nilahead_buf
  have h2 := m_BufRead
  have hmf : ∀ (fn : Fn) (first cap : Array Value) (w : World), (Instr.makeFunc fn first cap).run Try.prog w = .ok (.func fn first cap) w := fun _ _ _ _ => rfl
  have H := Lib.hid h
  have Hg := Lib.hid hg
  have Hcur := Lib.hid hcur
  have Hgb := Lib.hid hgb
  have Hgv := Lib.hid hgv
  have t0 : (0 : Int) < (m : Int) := by omega
  have t1 : (0 : Int) ≤ (m : Int) := by omega
  have t2 : (0 : Int) ≤ (c : Int) := by omega
  have t3 : ¬ c = 0 := by omega
  clear h hg hcur hgb hgv
  go_enter Try.func113, Try.ntmps113
  go_wp2_with fail
  go_loopw [4, 5] (fun n er wr => (n = .int .i64 0 ∧ er = .nilIface ∧ wr = w) ∨ (n = .int .i64 (m : Int) ∧ er = .nilIface ∧ BufR wr b v l (off + m) true ∧ wr.heap[g]? = some (.cells (vbs ((l.drop off).take m)).toArray 5 (0, 0)) ∧ Fr [b, g] w wr))
    (fun n _ _ => m - (intOf n).toNat)
  case atStart => exact .inl ⟨rfl, rfl, rfl⟩
  case round =>
    rcases hrel with ⟨rfl, rfl, rfl⟩ | ⟨rfl, rfl, hb, hgg, hfr⟩
    · go_wp2_with fail
      go_region_held3 (fun _ => True) (trivial)
        ((go_at_call 128; go_must (refine (BufRead_any b v l off rd g m c cur _ (H.out.fr (Fr.drew (Fr.refl [] _)) (by simp) (by simp)) hm ho Hg.out Hcur.out Hgb.out Hgv.out).mono ?_); rintro e w2 ⟨rfl, hb2, hg2, hf2⟩; have Hb2 := Lib.hid hb2; have Hg2 := Lib.hid hg2; have Hf2 := Lib.hid hf2; clear hb2 hg2 hf2))
      all_goals
        go_wp2_with fail
        exact ⟨.inr ⟨rfl, rfl, Hb2.out, Hg2.out, (Fr.refl [b, g] _).drew.trans Hf2.out (fun i h _ => h)⟩, by simp [intOf]; omega⟩
    · have Hb := Lib.hid hb
      have Hgg := Lib.hid hgg
      have Hfr := Lib.hid hfr
      clear hb hgg hfr
      go_wp2
      go_ret2
      exact ⟨rfl, Hb.out, Hgg.out, Hfr.out⟩
set_option maxRecDepth 100000 in
set_option maxHeartbeats 2000000 in
theorem readFull_rdr (b : Nat) (v : Value) (l : List UInt8) (off : Nat) (g m c : Nat) (cur : Array Value) (w : World) (h : RdrR w b v l off) (hm : 0 < m) (hmc : m ≤ c) (hcm : c ≤ 1099511627776) (ho : off + m ≤ l.length)
    (hg : w.heap[g]? = some (.cells cur 5 (0, 0))) (hcur : cur.size = m) (hgb : g ≠ b) (hgv : v.ownBlock ≠ some g) :
    Calls Try.prog 113 #[.iface 207 (.pointer (some ⟨b, 0, none⟩)), .slice (some ⟨g, 0, none⟩) m c] w fun e w' =>
      e = .returned (.tuple #[.int .i64 (m : Int), .nilIface]) ∧ RdrR w' b v l (off + m) ∧ w'.heap[g]? = some (.cells (vbs ((l.drop off).take m)).toArray 5 (0, 0)) ∧ Fr [b, g] w w' := by
  have h1 := nilahead_rdr
  have h2 := m_RdrRead
  have hmf : ∀ (fn : Fn) (first cap : Array Value) (w : World), (Instr.makeFunc fn first cap).run Try.prog w = .ok (.func fn first cap) w := fun _ _ _ _ => rfl
  have H := Lib.hid h
  have Hg := Lib.hid hg
  have Hcur := Lib.hid hcur
  have Hgb := Lib.hid hgb
  have Hgv := Lib.hid hgv
  have t0 : (0 : Int) < (m : Int) := by omega
  have t1 : (0 : Int) ≤ (m : Int) := by omega
  have t2 : (0 : Int) ≤ (c : Int) := by omega
  have t3 : ¬ c = 0 := by omega
  clear h hg hcur hgb hgv
  go_enter Try.func113, Try.ntmps113
  go_wp2_with fail
  go_loopw [4, 5] (fun n er wr => (n = .int .i64 0 ∧ er = .nilIface ∧ wr = w) ∨ (n = .int .i64 (m : Int) ∧ er = .nilIface ∧ RdrR wr b v l (off + m) ∧ wr.heap[g]? = some (.cells (vbs ((l.drop off).take m)).toArray 5 (0, 0)) ∧ Fr [b, g] w wr))
    (fun n _ _ => m - (intOf n).toNat)
  case atStart => exact .inl ⟨rfl, rfl, rfl⟩
  case round =>
    rcases hrel with ⟨rfl, rfl, rfl⟩ | ⟨rfl, rfl, hb, hgg, hfr⟩
    · go_wp2_with fail
      go_region_held3 (fun _ => True) (trivial)
        ((go_at_call 158; go_must (refine (RdrRead_any b v l off g m c cur _ (H.out.fr (Fr.drew (Fr.refl [] _)) (by simp) (by simp)) hm ho Hg.out Hcur.out Hgb.out Hgv.out).mono ?_); rintro e w2 ⟨rfl, hb2, hg2, hf2⟩; have Hb2 := Lib.hid hb2; have Hg2 := Lib.hid hg2; have Hf2 := Lib.hid hf2; clear hb2 hg2 hf2))
      all_goals
        go_wp2_with fail
        exact ⟨.inr ⟨rfl, rfl, Hb2.out, Hg2.out, (Fr.refl [b, g] _).drew.trans Hf2.out (fun i h _ => h)⟩, by simp [intOf]; omega⟩
    · have Hb := Lib.hid hb
      have Hgg := Lib.hid hgg
      have Hfr := Lib.hid hfr
      clear hb hgg hfr
      go_wp2
      go_ret2
      exact ⟨rfl, Hb.out, Hgg.out, Hfr.out⟩

theorem readFull_any (k : Bool) (b : Nat) (v : Value) (l : List UInt8) (off : Nat) (g m c : Nat) (cur : Array Value) (w : World) (h : SrcR k w b v l off) (hm : 0 < m) (hmc : m ≤ c) (hcm : c ≤ 1099511627776) (ho : off + m ≤ l.length)
    (hg : w.heap[g]? = some (.cells cur 5 (0, 0))) (hcur : cur.size = m) (hgb : g ≠ b) (hgv : v.ownBlock ≠ some g) :
    Calls Try.prog 113 #[srcV k b, .slice (some ⟨g, 0, none⟩) m c] w fun e w' =>
      e = .returned (.tuple #[.int .i64 (m : Int), .nilIface]) ∧ SrcR k w' b v l (off + m) ∧ w'.heap[g]? = some (.cells (vbs ((l.drop off).take m)).toArray 5 (0, 0)) ∧ Fr [b, g] w w' := by
  cases k
  · exact readFull_rdr b v l off g m c cur w h hm hmc hcm ho hg hcur hgb hgv
  · obtain ⟨rd, h⟩ := h
    exact (readFull_buf b v l off rd g m c cur w h hm hmc hcm ho hg hcur hgb hgv).mono fun e w' ⟨h1, h2, h3⟩ => ⟨h1, ⟨true, h2⟩, h3⟩

end Go.Proofs.Ytahohmdfllgedaa
