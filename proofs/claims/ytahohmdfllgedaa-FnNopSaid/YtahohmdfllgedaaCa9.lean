/- laws.world, laws.immediate.
The plain reader's calls; readFull, ReadFixed, ReadUintRaw.
ReadFixed, by the type of what is read.
ReadUintRaw; Buffer.Next.
The machine of expressions (op.context) in memory. -/
import Derived.Test.YtahohmdfllgedaaCa2
import Derived.Test.YtahohmdfllgedaaCa8
import Derived.Test.YtahohmdfllgedaaCa3
set_option linter.unusedVariables false
set_option linter.unusedSimpArgs false
namespace Go.Proofs.Ytahohmdfllgedaa
open Go.RowKit

set_option maxRecDepth 100000 in
set_option maxHeartbeats 1000000 in
theorem world_any (ra ma : Option Addr) (rn rc mn mc : Nat) (b c a : Int) (w : World) :
    Calls Try.prog 30 #[.agg #[.slice ra rn rc, vi b, vi c, .int .u64 a, .slice ma mn mc]] w fun e w' => e = .returned (.agg #[.slice ra rn rc, vi b, vi c, .int .u64 a, .slice ma mn mc]) ∧ Fr [] w w' := by
  go_enter Try.func30, Try.ntmps30
  go_wp2_with fail
  refine bodyPost_ret (v := .agg #[.slice ra rn rc, vi b, vi c, .int .u64 a, .slice ma mn mc]) (by simp [results, Try.results30, go_sem]) rfl ?_
  exact ⟨rfl, ((Fr.refl _ _).alloc _).alloc _⟩

set_option maxRecDepth 100000 in
set_option maxHeartbeats 1000000 in
theorem immediate_own (k z : Int) (u : Int) (x : Addr) (n c : Nat) (w : World) :
    Calls Try.prog 63 #[.agg #[vi k, .int .u64 u, vi z, .slice (some x) n c]] w fun e w' => e = .returned (.slice (some x) n c) ∧ Fr [] w w' := by
  have qS : ∀ a n c w, (binOp .neq 23 (.slice (some a) n c) (.slice none 0 0)).run Try.prog w = .ok (.bool true) w := fun _ _ _ _ => by kernel_rfl
  go_enter Try.func63, Try.ntmps63
  go_wp2_with fail
  go_ret
  exact ⟨rfl, (Fr.refl _ _).alloc _⟩

set_option maxRecDepth 100000 in
set_option maxHeartbeats 1000000 in
theorem immediate_val (k : Int) (u z : Nat) (hu : u < 18446744073709551616) (hz : z ≤ 8) (w : World) :
    Calls Try.prog 63 #[.agg #[vi k, .int .u64 (u : Int), vi (z : Int), .slice none 0 0]] w (Made (leL u z) w) := by
  have qN : ∀ w, (binOp .neq 23 (.slice none 0 0) (.slice none 0 0)).run Try.prog w = .ok (.bool false) w := fun _ => by kernel_rfl
  have h1 : ¬ (8 : Int) < (z : Int) := by omega
  have h2 : ¬ (z : Int) < 0 := by omega
  have h3 : decide ((8 : Int) < (z : Int)) = false := by simpa using h1
  have h4 : decide ((z : Int) < 0) = false := by simp
  have Hu := Lib.hid hu
  have Hz := Lib.hid hz
  clear hu hz
  go_enter Try.func63, Try.ntmps63
  go_wp2_with (go_at_call 48; go_must (refine (Little_any u z Hu.out Hz.out _).mono ?_); rintro e w2 ⟨a2, c2, rfl, ho2, hf2⟩; have Ho2 := Lib.hid ho2; have Hf2 := Lib.hid hf2; clear ho2 hf2)
  go_ret
  exact ⟨a2, c2, rfl, own_base Ho2.out (by simp), ((Fr.refl [] w).alloc _).then Hf2.out⟩
end Go.Proofs.Ytahohmdfllgedaa

namespace Go.Proofs.Ytahohmdfllgedaa
open Go.RowKit

set_option maxHeartbeats 400000 in
theorem NewReader_any (a : Option Addr) (n c : Nat) (w : World) :
    Calls Try.prog 119 #[.slice a n c] w fun e w' => e = .returned (.pointer (some ⟨w.heap.size, 0, none⟩)) ∧ w' = w.alloc (.cells #[.slice a n c, .int .i64 0] 220 (0, 0)) := by
  go_enter Try.func119, Try.ntmps119
  go_wp2_with fail
  go_ret
  exact ⟨rfl, rfl⟩
theorem RdrR_new {w : World} {v : Value} {l : List UInt8} (h : Sl w v (vbs l)) (hlt : ∀ g, v.ownBlock = some g → g < w.heap.size) (hl : l.length ≤ 1099511627776) : RdrR (w.alloc (.cells #[v, .int .i64 0] 220 (0, 0))) w.heap.size v l 0 :=
  ⟨blk_new _ _, h.fr ((Fr.refl [] w).alloc _) (by simp), (fun hg => by have := hlt _ hg; omega), Nat.zero_le _, hl⟩
theorem RdrR.fr {bs : List Nat} {w w' : World} {b : Nat} {v : Value} {l : List UInt8} {off : Nat} (h : RdrR w b v l off) (f : Fr bs w w') (hb : b ∉ bs)
    (hv : ∀ g, v.ownBlock = some g → g ∉ bs) : RdrR w' b v l off :=
  ⟨f.get h.1 hb, h.2.1.fr f hv, h.2.2⟩
theorem SrcR.fr {k : Bool} {bs : List Nat} {w w' : World} {b : Nat} {v : Value} {l : List UInt8} {off : Nat} (h : SrcR k w b v l off) (f : Fr bs w w') (hb : b ∉ bs)
    (hv : ∀ g, v.ownBlock = some g → g ∉ bs) : SrcR k w' b v l off := by
  cases k
  · exact RdrR.fr h f hb hv
  · obtain ⟨rd, h⟩ := h; exact ⟨rd, h.fr f hb hv⟩

set_option maxRecDepth 100000 in
set_option maxHeartbeats 2000000 in
theorem RdrSeek_zero (b : Nat) (v : Value) (l : List UInt8) (off : Nat) (w : World) (h : RdrR w b v l off) :
    Calls Try.prog 121 #[.pointer (some ⟨b, 0, none⟩), .int .i64 0, .int .i64 1] w fun e w' =>
      e = .returned (.tuple #[.int .i64 (off : Int), .nilIface]) ∧ RdrR w' b v l off ∧ Fr [b] w w' := by
  obtain ⟨hb, hs, hne, ho, hl⟩ := h
  have c1 : w.cell? ⟨b, 1, none⟩ = some (.int .i64 (off : Int)) := by rw [blk_cell hb]; rfl
  have f1 : w.frozen? ⟨b, 1, none⟩ = false := blk_free hb _
  have hoff : (off : Int) ≤ 1099511627776 := by omega
  have Hb := Lib.hid hb
  have Hs := Lib.hid hs
  have Hne := Lib.hid hne
  clear hb hs hne
  go_enter Try.func121, Try.ntmps121
  go_wp2_with fail
  go_ret2
  have hf : Fr [b] w (w.setCell ⟨b, 1, none⟩ (.int .i64 (off : Int))) := (Fr.refl _ _).setCell (.inl (by simp)) _
  exact ⟨rfl, ⟨by simpa using blk_set Hb.out 1 (.int .i64 (off : Int)), Hs.out.fr hf (by intro g hg; simp; rintro rfl; exact Hne.out hg), Hne.out, ho, hl⟩, hf⟩

set_option maxRecDepth 100000 in
set_option maxHeartbeats 2000000 in
theorem RdrRead_any (b : Nat) (v : Value) (l : List UInt8) (off : Nat) (g m c : Nat) (cur : Array Value) (w : World) (h : RdrR w b v l off) (hm : 0 < m) (ho : off + m ≤ l.length)
    (hg : w.heap[g]? = some (.cells cur 5 (0, 0))) (hcur : cur.size = m) (hgb : g ≠ b) (hgv : v.ownBlock ≠ some g) :
    Calls Try.prog 158 #[.pointer (some ⟨b, 0, none⟩), .slice (some ⟨g, 0, none⟩) m c] w fun e w' =>
      e = .returned (.tuple #[.int .i64 (m : Int), .nilIface]) ∧ RdrR w' b v l (off + m) ∧ w'.heap[g]? = some (.cells (vbs ((l.drop off).take m)).toArray 5 (0, 0)) ∧ Fr [b, g] w w' := by
  obtain ⟨hb, hs, hne, -, hl⟩ := h
  obtain ⟨a, cc, rfl, h1, h2, h3, -⟩ := hs.shape
  obtain ⟨gs, os, rfl, hc⟩ := h3 (by omega)
  have hne' : Hid (gs ≠ b) := by show gs ≠ b; simpa [Value.ownBlock] using hne
  have hgv' : Hid (gs ≠ g) := by show gs ≠ g; simpa [Value.ownBlock] using hgv
  have hgb' := Lib.hid hgb
  unfold maxLen at h2
  have c0 : w.cell? ⟨b, 0, none⟩ = some (.slice (some ⟨gs, os, none⟩) l.length cc) := by rw [blk_cell hb]; rfl
  have c1 : w.cell? ⟨b, 1, none⟩ = some (.int .i64 (off : Int)) := by rw [blk_cell hb]; rfl
  have Hc : Hid (Cells w gs (os + off) (vbs ((l.drop off).take m))) := drop_take_cells hc off m
  have Hg1 := Lib.hid hg
  have Hb1 := Lib.hid hb
  have Hcur := Lib.hid hcur
  have Hs := Lib.hid hs
  have Hml : Hid (((l.drop off).take m).length = m) := by show _ = _; rw [List.length_take, List.length_drop]; omega
  have hlen : (off : Int) ≤ (l.length : Int) := by omega
  have hcap : (off : Int) ≤ (cc : Int) := by omega
  have hcap2 : ¬ cc = off := by omega
  have hlo : m ≤ l.length - off := by omega
  have hoff : ¬ (l.length : Int) ≤ (off : Int) := by omega
  have hoff2 : decide ((l.length : Int) ≤ (off : Int)) = false := by simpa using hoff
  clear hb hs hne h1 h3 hgb hgv hc hg hcur
  go_enter Try.func158, Try.ntmps158
  go_wp2_with fail
  go_quiet (fail)
  go_wp2_with fail
  go_region_held3 (fun w' => w'.cell? ⟨b, 0, none⟩ = some (.slice (some ⟨gs, os, none⟩) l.length cc) ∧ w'.cell? ⟨b, 1, none⟩ = some (.int .i64 (off : Int)))
    (first | exact ⟨HF2.out.cell c0 (by simpa using hgb'.out.symm), HF2.out.cell c1 (by simpa using hgb'.out.symm)⟩ | exact ⟨c0, c1⟩)
    ((refine copy_step (by rfl) _ _ (by rfl) g c (some ⟨gs, os + off, none⟩) m (l.length - off) (cc - off) (by rfl) (by rfl) cur Hg1.out Hcur.out _ Hml.out hlo ⟨gs, os + off, none⟩ (by rfl) (fun j v hj => by rw [Addr.add_lit]; exact Hc.out j v hj) ?_; intro w2 hg2 hf2; have Hg2 := Lib.hid hg2; have HF2 : Hid (Fr [g] w w2) := ⟨hf2.os, hf2.tape, hf2.output, hf2.size, hf2.blk⟩; clear hg2 hf2))
  all_goals
    have hb2 : w2.heap[b]? = some (.cells #[.slice (some ⟨gs, os, none⟩) l.length cc, .int .i64 (off : Int)] 220 (0, 0)) := HF2.out.get Hb1.out (by simpa using hgb'.out.symm)
    have d1 : w2.cell? ⟨b, 1, none⟩ = some (.int .i64 (off : Int)) := by rw [blk_cell hb2]; rfl
    have e1 : w2.frozen? ⟨b, 1, none⟩ = false := blk_free hb2 _
    have Hb2 := Lib.hid hb2
    clear hb2 c0 c1
    go_wp2
    go_ret2
    refine ⟨rfl, ⟨?_, ?_, by simpa [Value.ownBlock] using hne'.out, by omega, hl⟩, ?_, ?_⟩
    · simpa using blk_set (w := w2) Hb2.out 1 (.int .i64 ((off : Int) + m))
    · refine Hs.out.fr (bs := [b, g]) ((HF2.out.mono (bs := [b, g]) (by simp)).setCell (.inl (by simp)) _) ?_
      intro g' hg'; simp [Value.ownBlock] at hg'; subst hg'; simpa using ⟨hne'.out, hgv'.out⟩
    · have := blk_set_other Hg2.out (i := 1) (u := .int .i64 ((off : Int) + m)) hgb'.out
      simpa using this
    · exact (HF2.out.mono (bs := [b, g]) (by simp)).setCell (.inl (by simp)) _

theorem nilahead_buf (b : Nat) (w : World) : (nilAhead 337 75 (.pointer (some ⟨b, 0, none⟩)) "Read").run Try.prog w = .ok (some false) w := by kernel_rfl
theorem nilahead_rdr (b : Nat) (w : World) : (nilAhead 337 207 (.pointer (some ⟨b, 0, none⟩)) "Read").run Try.prog w = .ok (some false) w := by kernel_rfl
theorem m_BufRead (b : Nat) (w : World) : (method 337 75 (.pointer (some ⟨b, 0, none⟩)) "Read").run Try.prog w = .ok (128, .pointer (some ⟨b, 0, none⟩)) w := by kernel_rfl
theorem m_RdrRead (b : Nat) (w : World) : (method 337 207 (.pointer (some ⟨b, 0, none⟩)) "Read").run Try.prog w = .ok (158, .pointer (some ⟨b, 0, none⟩)) w := by kernel_rfl

set_option maxRecDepth 100000 in
set_option maxHeartbeats 2000000 in
theorem readFull_buf (b : Nat) (v : Value) (l : List UInt8) (off : Nat) (rd : Bool) (g m c : Nat) (cur : Array Value) (w : World) (h : BufR w b v l off rd) (hm : 0 < m) (hmc : m ≤ c) (hcm : c ≤ 1099511627776) (ho : off + m ≤ l.length)
    (hg : w.heap[g]? = some (.cells cur 5 (0, 0))) (hcur : cur.size = m) (hgb : g ≠ b) (hgv : v.ownBlock ≠ some g) :
    Calls Try.prog 113 #[.iface 75 (.pointer (some ⟨b, 0, none⟩)), .slice (some ⟨g, 0, none⟩) m c] w fun e w' =>
      e = .returned (.tuple #[.int .i64 (m : Int), .nilIface]) ∧ BufR w' b v l (off + m) true ∧ w'.heap[g]? = some (.cells (vbs ((l.drop off).take m)).toArray 5 (0, 0)) ∧ Fr [b, g] w w' := by
  have h1 := nilahead_buf
  have h2 := m_BufRead
  have hmf : ∀ (fn : Fn) (first cap : Array Value) (w : World), (Instr.makeFunc fn first cap).run Try.prog w = .ok (.func fn first cap) w := fun _ _ _ _ => rfl
  have H := Lib.hid h
  have Hg := Lib.hid hg
  have Hcur := Lib.hid hcur
  have Hgb := Lib.hid hgb
  have Hgv := Lib.hid hgv
  have t0 : (0 : Int) < (m : Int) := by omega
  have t1 : (0 : Int) ≤ (m : Int) := by omega
  have t2 : (0 : Int) ≤ (c : Int) := by omega
  have t3 : ¬ c = 0 := by omega
  clear h hg hcur hgb hgv
  go_enter Try.func113, Try.ntmps113
  go_wp2_with fail
  go_loopw [4, 5] (fun n er wr => (n = .int .i64 0 ∧ er = .nilIface ∧ wr = w) ∨ (n = .int .i64 (m : Int) ∧ er = .nilIface ∧ BufR wr b v l (off + m) true ∧ wr.heap[g]? = some (.cells (vbs ((l.drop off).take m)).toArray 5 (0, 0)) ∧ Fr [b, g] w wr))
    (fun n _ _ => m - (intOf n).toNat)
  case atStart => exact .inl ⟨rfl, rfl, rfl⟩
  case round =>
    rcases hrel with ⟨rfl, rfl, rfl⟩ | ⟨rfl, rfl, hb, hgg, hfr⟩
    · go_wp2_with fail
      go_region_held3 (fun _ => True) (trivial)
        ((go_at_call 128; go_must (refine (BufRead_any b v l off rd g m c cur _ (H.out.fr (Fr.drew (Fr.refl [] _)) (by simp) (by simp)) hm ho Hg.out Hcur.out Hgb.out Hgv.out).mono ?_); rintro e w2 ⟨rfl, hb2, hg2, hf2⟩; have Hb2 := Lib.hid hb2; have Hg2 := Lib.hid hg2; have Hf2 := Lib.hid hf2; clear hb2 hg2 hf2))
      all_goals
        go_wp2_with fail
        exact ⟨.inr ⟨rfl, rfl, Hb2.out, Hg2.out, (Fr.refl [b, g] _).drew.trans Hf2.out (fun i h _ => h)⟩, by simp [intOf]; omega⟩
    · have Hb := Lib.hid hb
      have Hgg := Lib.hid hgg
      have Hfr := Lib.hid hfr
      clear hb hgg hfr
      go_wp2
      go_ret2
      exact ⟨rfl, Hb.out, Hgg.out, Hfr.out⟩
set_option maxRecDepth 100000 in
set_option maxHeartbeats 2000000 in
theorem readFull_rdr (b : Nat) (v : Value) (l : List UInt8) (off : Nat) (g m c : Nat) (cur : Array Value) (w : World) (h : RdrR w b v l off) (hm : 0 < m) (hmc : m ≤ c) (hcm : c ≤ 1099511627776) (ho : off + m ≤ l.length)
    (hg : w.heap[g]? = some (.cells cur 5 (0, 0))) (hcur : cur.size = m) (hgb : g ≠ b) (hgv : v.ownBlock ≠ some g) :
    Calls Try.prog 113 #[.iface 207 (.pointer (some ⟨b, 0, none⟩)), .slice (some ⟨g, 0, none⟩) m c] w fun e w' =>
      e = .returned (.tuple #[.int .i64 (m : Int), .nilIface]) ∧ RdrR w' b v l (off + m) ∧ w'.heap[g]? = some (.cells (vbs ((l.drop off).take m)).toArray 5 (0, 0)) ∧ Fr [b, g] w w' := by
  have h1 := nilahead_rdr
  have h2 := m_RdrRead
  have hmf : ∀ (fn : Fn) (first cap : Array Value) (w : World), (Instr.makeFunc fn first cap).run Try.prog w = .ok (.func fn first cap) w := fun _ _ _ _ => rfl
  have H := Lib.hid h
  have Hg := Lib.hid hg
  have Hcur := Lib.hid hcur
  have Hgb := Lib.hid hgb
  have Hgv := Lib.hid hgv
  have t0 : (0 : Int) < (m : Int) := by omega
  have t1 : (0 : Int) ≤ (m : Int) := by omega
  have t2 : (0 : Int) ≤ (c : Int) := by omega
  have t3 : ¬ c = 0 := by omega
  clear h hg hcur hgb hgv
  go_enter Try.func113, Try.ntmps113
  go_wp2_with fail
  go_loopw [4, 5] (fun n er wr => (n = .int .i64 0 ∧ er = .nilIface ∧ wr = w) ∨ (n = .int .i64 (m : Int) ∧ er = .nilIface ∧ RdrR wr b v l (off + m) ∧ wr.heap[g]? = some (.cells (vbs ((l.drop off).take m)).toArray 5 (0, 0)) ∧ Fr [b, g] w wr))
    (fun n _ _ => m - (intOf n).toNat)
  case atStart => exact .inl ⟨rfl, rfl, rfl⟩
  case round =>
    rcases hrel with ⟨rfl, rfl, rfl⟩ | ⟨rfl, rfl, hb, hgg, hfr⟩
    · go_wp2_with fail
      go_region_held3 (fun _ => True) (trivial)
        ((go_at_call 158; go_must (refine (RdrRead_any b v l off g m c cur _ (H.out.fr (Fr.drew (Fr.refl [] _)) (by simp) (by simp)) hm ho Hg.out Hcur.out Hgb.out Hgv.out).mono ?_); rintro e w2 ⟨rfl, hb2, hg2, hf2⟩; have Hb2 := Lib.hid hb2; have Hg2 := Lib.hid hg2; have Hf2 := Lib.hid hf2; clear hb2 hg2 hf2))
      all_goals
        go_wp2_with fail
        exact ⟨.inr ⟨rfl, rfl, Hb2.out, Hg2.out, (Fr.refl [b, g] _).drew.trans Hf2.out (fun i h _ => h)⟩, by simp [intOf]; omega⟩
    · have Hb := Lib.hid hb
      have Hgg := Lib.hid hgg
      have Hfr := Lib.hid hfr
      clear hb hgg hfr
      go_wp2
      go_ret2
      exact ⟨rfl, Hb.out, Hgg.out, Hfr.out⟩

theorem readFull_any (k : Bool) (b : Nat) (v : Value) (l : List UInt8) (off : Nat) (g m c : Nat) (cur : Array Value) (w : World) (h : SrcR k w b v l off) (hm : 0 < m) (hmc : m ≤ c) (hcm : c ≤ 1099511627776) (ho : off + m ≤ l.length)
    (hg : w.heap[g]? = some (.cells cur 5 (0, 0))) (hcur : cur.size = m) (hgb : g ≠ b) (hgv : v.ownBlock ≠ some g) :
    Calls Try.prog 113 #[srcV k b, .slice (some ⟨g, 0, none⟩) m c] w fun e w' =>
      e = .returned (.tuple #[.int .i64 (m : Int), .nilIface]) ∧ SrcR k w' b v l (off + m) ∧ w'.heap[g]? = some (.cells (vbs ((l.drop off).take m)).toArray 5 (0, 0)) ∧ Fr [b, g] w w' := by
  cases k
  · exact readFull_rdr b v l off g m c cur w h hm hmc hcm ho hg hcur hgb hgv
  · obtain ⟨rd, h⟩ := h
    exact (readFull_buf b v l off rd g m c cur w h hm hmc hcm ho hg hcur hgb hgv).mono fun e w' ⟨h1, h2, h3⟩ => ⟨h1, ⟨true, h2⟩, h3⟩

end Go.Proofs.Ytahohmdfllgedaa

namespace Go.Proofs.Ytahohmdfllgedaa
open Go.RowKit

theorem m_Uint16 (w : World) : (method 337 95 (.agg #[]) "Uint16").run Try.prog w = .ok (150, .agg #[]) w := by kernel_rfl
theorem m_Uint32 (w : World) : (method 337 95 (.agg #[]) "Uint32").run Try.prog w = .ok (151, .agg #[]) w := by kernel_rfl
theorem m_Uint64 (w : World) : (method 337 95 (.agg #[]) "Uint64").run Try.prog w = .ok (152, .agg #[]) w := by kernel_rfl
theorem cells_blk {w : World} {g : Nat} {l : List UInt8} {t : TypeId} {fz : Nat × Nat} (h : w.heap[g]? = some (.cells (vbs l).toArray t fz)) : Cells w g 0 (vbs l) :=
  fun i v hi => by rw [Nat.zero_add, blk_cell h]; simpa using hi

set_option maxRecDepth 100000 in
set_option maxHeartbeats 4000000 in
theorem ReadFixed_u16 (k : Bool) (b : Nat) (v : Value) (l : List UInt8) (off : Nat) (p po : Nat) (cs : Array Value) (pt : TypeId) (old : Int) (w : World) (h : SrcR k w b v l off) (hl : off + 2 ≤ l.length)
    (hp : w.heap[p]? = some (.cells cs pt (0, 0))) (hpo : cs[po]? = some (.int .u16 old)) (hpb : p ≠ b) (hb : b < w.heap.size) (hv : ∀ g, v.ownBlock = some g → g < w.heap.size ∧ g ≠ p) :
    Calls Try.prog 82 #[srcV k b, .iface 95 (.agg #[]), .iface 189 (.pointer (some ⟨p, po, none⟩))] w fun e w' =>
      e = .returned .nilIface ∧ SrcR k w' b v l (off + 2) ∧ w'.heap[p]? = some (.cells (cs.setIfInBounds po (.int .u16 ((leval ((l.drop off).take 2) : Nat) : Int))) pt (0, 0)) ∧ Fr [b, p] w w' := by
  have ta_pu8 : ∀ (a : Option Addr) (w : World), (Instr.typeAssert (.iface 189 (.pointer a)) 20 187 true).run Try.prog w = .ok (.tuple #[.pointer none, .bool false]) w := fun _ _ => by kernel_rfl
  have ta_pi8 : ∀ (a : Option Addr) (w : World), (Instr.typeAssert (.iface 189 (.pointer a)) 20 188 true).run Try.prog w = .ok (.tuple #[.pointer none, .bool false]) w := fun _ _ => by kernel_rfl
  have ta_pu16 : ∀ (a : Option Addr) (w : World), (Instr.typeAssert (.iface 189 (.pointer a)) 20 189 true).run Try.prog w = .ok (.tuple #[.pointer a, .bool true]) w := fun _ _ => by kernel_rfl
  have ta_pi16 : ∀ (a : Option Addr) (w : World), (Instr.typeAssert (.iface 189 (.pointer a)) 20 190 true).run Try.prog w = .ok (.tuple #[.pointer none, .bool false]) w := fun _ _ => by kernel_rfl
  have hm := m_Uint16
  have hmk : ∀ w, (Instr.makeSlice 23 (.int .i64 2) (.int .i64 2)).run Try.prog w = .ok (.slice (some ⟨w.heap.size, 0, none⟩) 2 2) (w.alloc (.cells #[.int .u8 0, .int .u8 0] 5 (0, 0))) := fun _ => by kernel_rfl
  have H := Lib.hid h
  have Hp := Lib.hid hp
  have Hpo := Lib.hid hpo
  have Hpb := Lib.hid hpb
  have Hv := Lib.hid hv
  have hplt := lt_heap hp
  clear h hp hpo hpb hv
  obtain ⟨x0, x1, hx⟩ : ∃ x0 x1, (l.drop off).take 2 = [x0, x1] := by
    have hxl : ((l.drop off).take 2).length = 2 := by rw [List.length_take, List.length_drop]; omega
    match (l.drop off).take 2, hxl with
    | [x0, x1], _ => exact ⟨x0, x1, rfl⟩
  have Hx := Lib.hid hx
  rw [hx]
  clear hx
  go_enter Try.func82, Try.ntmps82
  go_wp2_with (go_at_call 113; go_must (refine (readFull_any k b v l off w.heap.size 2 2 _ _ (H.out.fr ((Fr.refl [] w).alloc _) (by simp) (by simp)) (by decide) (by decide) (by decide) hl (blk_new w _) (by rfl) (by omega) (fun h => by have := (Hv.out _ h).1; omega)).mono ?_); rw [Hx.out]; rintro e w2 ⟨rfl, hb2, hg2, hf2⟩; have Hb2 := Lib.hid hb2; have Hg2 := Lib.hid hg2; have Hf2 : Hid (Fr [b] w w2) := ((Fr.refl [b] w).alloc _).trans hf2 (by intro i hi hlt; simp at hi hlt; rcases hi with rfl | rfl; simp; omega); clear hb2 hg2 hf2)
  refine ((Uint16_any w.heap.size 0 2 2 x0 x1 _ (cells_blk Hg2.out) (by decide))).mono ?_
  obtain ⟨val, hval⟩ : ∃ val, leval [x0, x1] = val := ⟨_, rfl⟩
  rw [hval]
  have Hval := Lib.hid hval
  clear hval
  rintro e w3 ⟨rfl, hf3⟩
  have Hb3 : Hid (SrcR k w3 b v l (off + 2)) := Hb2.out.fr hf3 (by simp) (by simp)
  have hp3 : w3.heap[p]? = some (.cells cs pt (0, 0)) := hf3.get (Hf2.out.get Hp.out (by simpa using Hpb.out)) (by simp)
  have Hf3 : Hid (Fr [b] w w3) := Hf2.out.then hf3
  have d0 : w3.cell? ⟨p, po, none⟩ = some (.int .u16 old) := by rw [blk_cell hp3]; exact Hpo.out
  have e0 : w3.frozen? ⟨p, po, none⟩ = false := blk_free hp3 _
  have Hp3 := Lib.hid hp3
  clear hp3 hf3
  go_wp2_with fail
  go_ret
  have F : Fr [b, p] w (w3.setCell ⟨p, po, none⟩ (.int .u16 (val : Int))) := (Hf3.out.mono (by simp)).setCell (.inl (by simp)) _
  exact ⟨rfl, Hb3.out.fr ((Fr.refl [p] w3).setCell (.inl (by simp)) _) (by simpa using Hpb.out.symm) (by intro g hg; simpa using (Hv.out g hg).2), by rw [Hval.out]; exact blk_set Hp3.out po _, F⟩

set_option maxRecDepth 100000 in
set_option maxHeartbeats 4000000 in
theorem ReadFixed_i16 (k : Bool) (b : Nat) (v : Value) (l : List UInt8) (off : Nat) (p po : Nat) (cs : Array Value) (pt : TypeId) (old : Int) (w : World) (h : SrcR k w b v l off) (hl : off + 2 ≤ l.length)
    (hp : w.heap[p]? = some (.cells cs pt (0, 0))) (hpo : cs[po]? = some (.int .i16 old)) (hpb : p ≠ b) (hb : b < w.heap.size) (hv : ∀ g, v.ownBlock = some g → g < w.heap.size ∧ g ≠ p) :
    Calls Try.prog 82 #[srcV k b, .iface 95 (.agg #[]), .iface 190 (.pointer (some ⟨p, po, none⟩))] w fun e w' =>
      e = .returned .nilIface ∧ SrcR k w' b v l (off + 2) ∧ w'.heap[p]? = some (.cells (cs.setIfInBounds po (.int .i16 (IntKind.i16.wrap ((leval ((l.drop off).take 2) : Nat) : Int)))) pt (0, 0)) ∧ Fr [b, p] w w' := by
  have ta_pu8 : ∀ (a : Option Addr) (w : World), (Instr.typeAssert (.iface 190 (.pointer a)) 20 187 true).run Try.prog w = .ok (.tuple #[.pointer none, .bool false]) w := fun _ _ => by kernel_rfl
  have ta_pi8 : ∀ (a : Option Addr) (w : World), (Instr.typeAssert (.iface 190 (.pointer a)) 20 188 true).run Try.prog w = .ok (.tuple #[.pointer none, .bool false]) w := fun _ _ => by kernel_rfl
  have ta_pu16 : ∀ (a : Option Addr) (w : World), (Instr.typeAssert (.iface 190 (.pointer a)) 20 189 true).run Try.prog w = .ok (.tuple #[.pointer none, .bool false]) w := fun _ _ => by kernel_rfl
  have ta_pi16 : ∀ (a : Option Addr) (w : World), (Instr.typeAssert (.iface 190 (.pointer a)) 20 190 true).run Try.prog w = .ok (.tuple #[.pointer a, .bool true]) w := fun _ _ => by kernel_rfl
  have hm := m_Uint16
  have hmk : ∀ w, (Instr.makeSlice 23 (.int .i64 2) (.int .i64 2)).run Try.prog w = .ok (.slice (some ⟨w.heap.size, 0, none⟩) 2 2) (w.alloc (.cells #[.int .u8 0, .int .u8 0] 5 (0, 0))) := fun _ => by kernel_rfl
  have H := Lib.hid h
  have Hp := Lib.hid hp
  have Hpo := Lib.hid hpo
  have Hpb := Lib.hid hpb
  have Hv := Lib.hid hv
  have hplt := lt_heap hp
  clear h hp hpo hpb hv
  obtain ⟨x0, x1, hx⟩ : ∃ x0 x1, (l.drop off).take 2 = [x0, x1] := by
    have hxl : ((l.drop off).take 2).length = 2 := by rw [List.length_take, List.length_drop]; omega
    match (l.drop off).take 2, hxl with
    | [x0, x1], _ => exact ⟨x0, x1, rfl⟩
  have Hx := Lib.hid hx
  rw [hx]
  clear hx
  go_enter Try.func82, Try.ntmps82
  go_wp2_with (go_at_call 113; go_must (refine (readFull_any k b v l off w.heap.size 2 2 _ _ (H.out.fr ((Fr.refl [] w).alloc _) (by simp) (by simp)) (by decide) (by decide) (by decide) hl (blk_new w _) (by rfl) (by omega) (fun h => by have := (Hv.out _ h).1; omega)).mono ?_); rw [Hx.out]; rintro e w2 ⟨rfl, hb2, hg2, hf2⟩; have Hb2 := Lib.hid hb2; have Hg2 := Lib.hid hg2; have Hf2 : Hid (Fr [b] w w2) := ((Fr.refl [b] w).alloc _).trans hf2 (by intro i hi hlt; simp at hi hlt; rcases hi with rfl | rfl; simp; omega); clear hb2 hg2 hf2)
  refine ((Uint16_any w.heap.size 0 2 2 x0 x1 _ (cells_blk Hg2.out) (by decide))).mono ?_
  obtain ⟨val, hval⟩ : ∃ val, leval [x0, x1] = val := ⟨_, rfl⟩
  rw [hval]
  have Hval := Lib.hid hval
  clear hval
  rintro e w3 ⟨rfl, hf3⟩
  have Hb3 : Hid (SrcR k w3 b v l (off + 2)) := Hb2.out.fr hf3 (by simp) (by simp)
  have hp3 : w3.heap[p]? = some (.cells cs pt (0, 0)) := hf3.get (Hf2.out.get Hp.out (by simpa using Hpb.out)) (by simp)
  have Hf3 : Hid (Fr [b] w w3) := Hf2.out.then hf3
  have d0 : w3.cell? ⟨p, po, none⟩ = some (.int .i16 old) := by rw [blk_cell hp3]; exact Hpo.out
  have e0 : w3.frozen? ⟨p, po, none⟩ = false := blk_free hp3 _
  have Hp3 := Lib.hid hp3
  clear hp3 hf3
  go_wp2_with fail
  go_ret
  have F : Fr [b, p] w (w3.setCell ⟨p, po, none⟩ (.int .i16 (IntKind.i16.wrap (val : Int)))) := (Hf3.out.mono (by simp)).setCell (.inl (by simp)) _
  exact ⟨rfl, Hb3.out.fr ((Fr.refl [p] w3).setCell (.inl (by simp)) _) (by simpa using Hpb.out.symm) (by intro g hg; simpa using (Hv.out g hg).2), by rw [Hval.out]; exact blk_set Hp3.out po _, F⟩

set_option maxRecDepth 100000 in
set_option maxHeartbeats 4000000 in
theorem ReadFixed_u32 (k : Bool) (b : Nat) (v : Value) (l : List UInt8) (off : Nat) (p po : Nat) (cs : Array Value) (pt : TypeId) (old : Int) (w : World) (h : SrcR k w b v l off) (hl : off + 4 ≤ l.length)
    (hp : w.heap[p]? = some (.cells cs pt (0, 0))) (hpo : cs[po]? = some (.int .u32 old)) (hpb : p ≠ b) (hb : b < w.heap.size) (hv : ∀ g, v.ownBlock = some g → g < w.heap.size ∧ g ≠ p) :
    Calls Try.prog 82 #[srcV k b, .iface 95 (.agg #[]), .iface 177 (.pointer (some ⟨p, po, none⟩))] w fun e w' =>
      e = .returned .nilIface ∧ SrcR k w' b v l (off + 4) ∧ w'.heap[p]? = some (.cells (cs.setIfInBounds po (.int .u32 ((leval ((l.drop off).take 4) : Nat) : Int))) pt (0, 0)) ∧ Fr [b, p] w w' := by
  have ta_pu8 : ∀ (a : Option Addr) (w : World), (Instr.typeAssert (.iface 177 (.pointer a)) 20 187 true).run Try.prog w = .ok (.tuple #[.pointer none, .bool false]) w := fun _ _ => by kernel_rfl
  have ta_pi8 : ∀ (a : Option Addr) (w : World), (Instr.typeAssert (.iface 177 (.pointer a)) 20 188 true).run Try.prog w = .ok (.tuple #[.pointer none, .bool false]) w := fun _ _ => by kernel_rfl
  have ta_pu16 : ∀ (a : Option Addr) (w : World), (Instr.typeAssert (.iface 177 (.pointer a)) 20 189 true).run Try.prog w = .ok (.tuple #[.pointer none, .bool false]) w := fun _ _ => by kernel_rfl
  have ta_pi16 : ∀ (a : Option Addr) (w : World), (Instr.typeAssert (.iface 177 (.pointer a)) 20 190 true).run Try.prog w = .ok (.tuple #[.pointer none, .bool false]) w := fun _ _ => by kernel_rfl
  have ta_pu32 : ∀ (a : Option Addr) (w : World), (Instr.typeAssert (.iface 177 (.pointer a)) 20 177 true).run Try.prog w = .ok (.tuple #[.pointer a, .bool true]) w := fun _ _ => by kernel_rfl
  have ta_pi32 : ∀ (a : Option Addr) (w : World), (Instr.typeAssert (.iface 177 (.pointer a)) 20 191 true).run Try.prog w = .ok (.tuple #[.pointer none, .bool false]) w := fun _ _ => by kernel_rfl
  have hm := m_Uint32
  have hmk : ∀ w, (Instr.makeSlice 23 (.int .i64 4) (.int .i64 4)).run Try.prog w = .ok (.slice (some ⟨w.heap.size, 0, none⟩) 4 4) (w.alloc (.cells #[.int .u8 0, .int .u8 0, .int .u8 0, .int .u8 0] 5 (0, 0))) := fun _ => by kernel_rfl
  have H := Lib.hid h
  have Hp := Lib.hid hp
  have Hpo := Lib.hid hpo
  have Hpb := Lib.hid hpb
  have Hv := Lib.hid hv
  have hplt := lt_heap hp
  clear h hp hpo hpb hv
  obtain ⟨x0, x1, x2, x3, hx⟩ : ∃ x0 x1 x2 x3, (l.drop off).take 4 = [x0, x1, x2, x3] := by
    have hxl : ((l.drop off).take 4).length = 4 := by rw [List.length_take, List.length_drop]; omega
    match (l.drop off).take 4, hxl with
    | [x0, x1, x2, x3], _ => exact ⟨x0, x1, x2, x3, rfl⟩
  have Hx := Lib.hid hx
  rw [hx]
  clear hx
  go_enter Try.func82, Try.ntmps82
  go_wp2_with (go_at_call 113; go_must (refine (readFull_any k b v l off w.heap.size 4 4 _ _ (H.out.fr ((Fr.refl [] w).alloc _) (by simp) (by simp)) (by decide) (by decide) (by decide) hl (blk_new w _) (by rfl) (by omega) (fun h => by have := (Hv.out _ h).1; omega)).mono ?_); rw [Hx.out]; rintro e w2 ⟨rfl, hb2, hg2, hf2⟩; have Hb2 := Lib.hid hb2; have Hg2 := Lib.hid hg2; have Hf2 : Hid (Fr [b] w w2) := ((Fr.refl [b] w).alloc _).trans hf2 (by intro i hi hlt; simp at hi hlt; rcases hi with rfl | rfl; simp; omega); clear hb2 hg2 hf2)
  refine ((Uint32_any w.heap.size 0 4 4 x0 x1 x2 x3 _ (cells_blk Hg2.out) (by decide))).mono ?_
  obtain ⟨val, hval⟩ : ∃ val, leval [x0, x1, x2, x3] = val := ⟨_, rfl⟩
  rw [hval]
  have Hval := Lib.hid hval
  clear hval
  rintro e w3 ⟨rfl, hf3⟩
  have Hb3 : Hid (SrcR k w3 b v l (off + 4)) := Hb2.out.fr hf3 (by simp) (by simp)
  have hp3 : w3.heap[p]? = some (.cells cs pt (0, 0)) := hf3.get (Hf2.out.get Hp.out (by simpa using Hpb.out)) (by simp)
  have Hf3 : Hid (Fr [b] w w3) := Hf2.out.then hf3
  have d0 : w3.cell? ⟨p, po, none⟩ = some (.int .u32 old) := by rw [blk_cell hp3]; exact Hpo.out
  have e0 : w3.frozen? ⟨p, po, none⟩ = false := blk_free hp3 _
  have Hp3 := Lib.hid hp3
  clear hp3 hf3
  go_wp2_with fail
  go_ret
  have F : Fr [b, p] w (w3.setCell ⟨p, po, none⟩ (.int .u32 (val : Int))) := (Hf3.out.mono (by simp)).setCell (.inl (by simp)) _
  exact ⟨rfl, Hb3.out.fr ((Fr.refl [p] w3).setCell (.inl (by simp)) _) (by simpa using Hpb.out.symm) (by intro g hg; simpa using (Hv.out g hg).2), by rw [Hval.out]; exact blk_set Hp3.out po _, F⟩

set_option maxRecDepth 100000 in
set_option maxHeartbeats 4000000 in
theorem ReadFixed_u64 (k : Bool) (b : Nat) (v : Value) (l : List UInt8) (off : Nat) (p po : Nat) (cs : Array Value) (pt : TypeId) (old : Int) (w : World) (h : SrcR k w b v l off) (hl : off + 8 ≤ l.length)
    (hp : w.heap[p]? = some (.cells cs pt (0, 0))) (hpo : cs[po]? = some (.int .u64 old)) (hpb : p ≠ b) (hb : b < w.heap.size) (hv : ∀ g, v.ownBlock = some g → g < w.heap.size ∧ g ≠ p) :
    Calls Try.prog 82 #[srcV k b, .iface 95 (.agg #[]), .iface 192 (.pointer (some ⟨p, po, none⟩))] w fun e w' =>
      e = .returned .nilIface ∧ SrcR k w' b v l (off + 8) ∧ w'.heap[p]? = some (.cells (cs.setIfInBounds po (.int .u64 ((leval ((l.drop off).take 8) : Nat) : Int))) pt (0, 0)) ∧ Fr [b, p] w w' := by
  have ta_pu8 : ∀ (a : Option Addr) (w : World), (Instr.typeAssert (.iface 192 (.pointer a)) 20 187 true).run Try.prog w = .ok (.tuple #[.pointer none, .bool false]) w := fun _ _ => by kernel_rfl
  have ta_pi8 : ∀ (a : Option Addr) (w : World), (Instr.typeAssert (.iface 192 (.pointer a)) 20 188 true).run Try.prog w = .ok (.tuple #[.pointer none, .bool false]) w := fun _ _ => by kernel_rfl
  have ta_pu16 : ∀ (a : Option Addr) (w : World), (Instr.typeAssert (.iface 192 (.pointer a)) 20 189 true).run Try.prog w = .ok (.tuple #[.pointer none, .bool false]) w := fun _ _ => by kernel_rfl
  have ta_pi16 : ∀ (a : Option Addr) (w : World), (Instr.typeAssert (.iface 192 (.pointer a)) 20 190 true).run Try.prog w = .ok (.tuple #[.pointer none, .bool false]) w := fun _ _ => by kernel_rfl
  have ta_pu32 : ∀ (a : Option Addr) (w : World), (Instr.typeAssert (.iface 192 (.pointer a)) 20 177 true).run Try.prog w = .ok (.tuple #[.pointer none, .bool false]) w := fun _ _ => by kernel_rfl
  have ta_pi32 : ∀ (a : Option Addr) (w : World), (Instr.typeAssert (.iface 192 (.pointer a)) 20 191 true).run Try.prog w = .ok (.tuple #[.pointer none, .bool false]) w := fun _ _ => by kernel_rfl
  have ta_pu64 : ∀ (a : Option Addr) (w : World), (Instr.typeAssert (.iface 192 (.pointer a)) 20 192 true).run Try.prog w = .ok (.tuple #[.pointer a, .bool true]) w := fun _ _ => by kernel_rfl
  have ta_pi64 : ∀ (a : Option Addr) (w : World), (Instr.typeAssert (.iface 192 (.pointer a)) 20 193 true).run Try.prog w = .ok (.tuple #[.pointer none, .bool false]) w := fun _ _ => by kernel_rfl
  have hm := m_Uint64
  have hmk : ∀ w, (Instr.makeSlice 23 (.int .i64 8) (.int .i64 8)).run Try.prog w = .ok (.slice (some ⟨w.heap.size, 0, none⟩) 8 8) (w.alloc (.cells #[.int .u8 0, .int .u8 0, .int .u8 0, .int .u8 0, .int .u8 0, .int .u8 0, .int .u8 0, .int .u8 0] 5 (0, 0))) := fun _ => by kernel_rfl
  have H := Lib.hid h
  have Hp := Lib.hid hp
  have Hpo := Lib.hid hpo
  have Hpb := Lib.hid hpb
  have Hv := Lib.hid hv
  have hplt := lt_heap hp
  clear h hp hpo hpb hv
  obtain ⟨x0, x1, x2, x3, x4, x5, x6, x7, hx⟩ : ∃ x0 x1 x2 x3 x4 x5 x6 x7, (l.drop off).take 8 = [x0, x1, x2, x3, x4, x5, x6, x7] := by
    have hxl : ((l.drop off).take 8).length = 8 := by rw [List.length_take, List.length_drop]; omega
    match (l.drop off).take 8, hxl with
    | [x0, x1, x2, x3, x4, x5, x6, x7], _ => exact ⟨x0, x1, x2, x3, x4, x5, x6, x7, rfl⟩
  have Hx := Lib.hid hx
  rw [hx]
  clear hx
  go_enter Try.func82, Try.ntmps82
  go_wp2_with (go_at_call 113; go_must (refine (readFull_any k b v l off w.heap.size 8 8 _ _ (H.out.fr ((Fr.refl [] w).alloc _) (by simp) (by simp)) (by decide) (by decide) (by decide) hl (blk_new w _) (by rfl) (by omega) (fun h => by have := (Hv.out _ h).1; omega)).mono ?_); rw [Hx.out]; rintro e w2 ⟨rfl, hb2, hg2, hf2⟩; have Hb2 := Lib.hid hb2; have Hg2 := Lib.hid hg2; have Hf2 : Hid (Fr [b] w w2) := ((Fr.refl [b] w).alloc _).trans hf2 (by intro i hi hlt; simp at hi hlt; rcases hi with rfl | rfl; simp; omega); clear hb2 hg2 hf2)
  refine ((Uint64_any w.heap.size 0 8 8 [x0, x1, x2, x3, x4, x5, x6, x7] _ (cells_blk Hg2.out) (by rfl) (by decide) (by decide) (by decide))).mono ?_
  obtain ⟨val, hval⟩ : ∃ val, leval [x0, x1, x2, x3, x4, x5, x6, x7] = val := ⟨_, rfl⟩
  rw [hval]
  have Hval := Lib.hid hval
  clear hval
  rintro e w3 ⟨rfl, hf3⟩
  have Hb3 : Hid (SrcR k w3 b v l (off + 8)) := Hb2.out.fr hf3 (by simp) (by simp)
  have hp3 : w3.heap[p]? = some (.cells cs pt (0, 0)) := hf3.get (Hf2.out.get Hp.out (by simpa using Hpb.out)) (by simp)
  have Hf3 : Hid (Fr [b] w w3) := Hf2.out.then hf3
  have d0 : w3.cell? ⟨p, po, none⟩ = some (.int .u64 old) := by rw [blk_cell hp3]; exact Hpo.out
  have e0 : w3.frozen? ⟨p, po, none⟩ = false := blk_free hp3 _
  have Hp3 := Lib.hid hp3
  clear hp3 hf3
  go_wp2_with fail
  go_ret
  have F : Fr [b, p] w (w3.setCell ⟨p, po, none⟩ (.int .u64 (val : Int))) := (Hf3.out.mono (by simp)).setCell (.inl (by simp)) _
  exact ⟨rfl, Hb3.out.fr ((Fr.refl [p] w3).setCell (.inl (by simp)) _) (by simpa using Hpb.out.symm) (by intro g hg; simpa using (Hv.out g hg).2), by rw [Hval.out]; exact blk_set Hp3.out po _, F⟩

end Go.Proofs.Ytahohmdfllgedaa

namespace Go.Proofs.Ytahohmdfllgedaa
open Go.RowKit

set_option maxRecDepth 100000 in
set_option maxHeartbeats 4000000 in
theorem ReadUintRaw_2 (k : Bool) (b : Nat) (v : Value) (l : List UInt8) (off : Nat) (w : World) (h : SrcR k w b v l off) (hl : off + 2 ≤ l.length) (hb : b < w.heap.size) (hv : ∀ g, v.ownBlock = some g → g < w.heap.size) :
    Calls Try.prog 124 #[srcV k b, .iface 95 (.agg #[]), .int .i64 2] w fun e w' =>
      e = .returned (.tuple #[.int .u64 ((leval ((l.drop off).take 2) : Nat) : Int), .nilIface]) ∧ SrcR k w' b v l (off + 2) ∧ Fr [b] w w' := by
  have H := Lib.hid h
  have Hv := Lib.hid hv
  have hx := leval_lt ((l.drop off).take 2)
  rw [show ((l.drop off).take 2).length = 2 by rw [List.length_take, List.length_drop]; omega] at hx
  obtain ⟨val, hval⟩ : ∃ val, leval ((l.drop off).take 2) = val := ⟨_, rfl⟩
  rw [hval] at hx ⊢
  have hx2 : (val : Int) < 65536 := by omega
  have hx3 : (0 : Int) ≤ (val : Int) := by omega
  have Hval := Lib.hid hval
  clear h hv hval hx
  go_enter Try.func124, Try.ntmps124
  go_wp2_with (go_at_call 82; go_must (refine (ReadFixed_u16 k b v l off w.heap.size 0 #[.int .u16 0] 198 0 _ (H.out.fr ((Fr.refl [] w).alloc _) (by simp) (by simp)) hl (blk_new w _) (by rfl) (by omega) (by simp; omega) (fun g hg => by have := Hv.out g hg; simp; omega)).mono ?_); rw [Hval.out])
  rintro e w2 ⟨rfl, hb2, hp2, hf2⟩
  have hq2 : w2.heap[w.heap.size]? = some (.cells #[.int .u16 (val : Int)] 198 (0, 0)) := by simpa using hp2
  have c0 : w2.cell? ⟨w.heap.size, 0, none⟩ = some (.int .u16 (val : Int)) := by rw [blk_cell hq2]; rfl
  have Hb2 := Lib.hid hb2
  have Hf2 : Hid (Fr [b] w w2) := ((Fr.refl [b] w).alloc _).trans hf2 (by intro i hi hlt; simp at hi hlt; rcases hi with rfl | rfl; simp; omega)
  clear hb2 hp2 hf2 hq2
  go_wp2_with fail
  go_ret2
  exact ⟨rfl, Hb2.out, Hf2.out⟩

set_option maxRecDepth 100000 in
set_option maxHeartbeats 4000000 in
theorem ReadUintRaw_4 (k : Bool) (b : Nat) (v : Value) (l : List UInt8) (off : Nat) (w : World) (h : SrcR k w b v l off) (hl : off + 4 ≤ l.length) (hb : b < w.heap.size) (hv : ∀ g, v.ownBlock = some g → g < w.heap.size) :
    Calls Try.prog 124 #[srcV k b, .iface 95 (.agg #[]), .int .i64 4] w fun e w' =>
      e = .returned (.tuple #[.int .u64 ((leval ((l.drop off).take 4) : Nat) : Int), .nilIface]) ∧ SrcR k w' b v l (off + 4) ∧ Fr [b] w w' := by
  have H := Lib.hid h
  have Hv := Lib.hid hv
  have hx := leval_lt ((l.drop off).take 4)
  rw [show ((l.drop off).take 4).length = 4 by rw [List.length_take, List.length_drop]; omega] at hx
  obtain ⟨val, hval⟩ : ∃ val, leval ((l.drop off).take 4) = val := ⟨_, rfl⟩
  rw [hval] at hx ⊢
  have hx2 : (val : Int) < 4294967296 := by omega
  have hx3 : (0 : Int) ≤ (val : Int) := by omega
  have Hval := Lib.hid hval
  clear h hv hval hx
  go_enter Try.func124, Try.ntmps124
  go_wp2_with (go_at_call 82; go_must (refine (ReadFixed_u32 k b v l off w.heap.size 0 #[.int .u32 0] 72 0 _ (H.out.fr ((Fr.refl [] w).alloc _) (by simp) (by simp)) hl (blk_new w _) (by rfl) (by omega) (by simp; omega) (fun g hg => by have := Hv.out g hg; simp; omega)).mono ?_); rw [Hval.out])
  rintro e w2 ⟨rfl, hb2, hp2, hf2⟩
  have hq2 : w2.heap[w.heap.size]? = some (.cells #[.int .u32 (val : Int)] 72 (0, 0)) := by simpa using hp2
  have c0 : w2.cell? ⟨w.heap.size, 0, none⟩ = some (.int .u32 (val : Int)) := by rw [blk_cell hq2]; rfl
  have Hb2 := Lib.hid hb2
  have Hf2 : Hid (Fr [b] w w2) := ((Fr.refl [b] w).alloc _).trans hf2 (by intro i hi hlt; simp at hi hlt; rcases hi with rfl | rfl; simp; omega)
  clear hb2 hp2 hf2 hq2
  go_wp2_with fail
  go_ret2
  exact ⟨rfl, Hb2.out, Hf2.out⟩

set_option maxRecDepth 100000 in
set_option maxHeartbeats 4000000 in
theorem ReadUintRaw_8 (k : Bool) (b : Nat) (v : Value) (l : List UInt8) (off : Nat) (w : World) (h : SrcR k w b v l off) (hl : off + 8 ≤ l.length) (hb : b < w.heap.size) (hv : ∀ g, v.ownBlock = some g → g < w.heap.size) :
    Calls Try.prog 124 #[srcV k b, .iface 95 (.agg #[]), .int .i64 8] w fun e w' =>
      e = .returned (.tuple #[.int .u64 ((leval ((l.drop off).take 8) : Nat) : Int), .nilIface]) ∧ SrcR k w' b v l (off + 8) ∧ Fr [b] w w' := by
  have H := Lib.hid h
  have Hv := Lib.hid hv
  have hx := leval_lt ((l.drop off).take 8)
  rw [show ((l.drop off).take 8).length = 8 by rw [List.length_take, List.length_drop]; omega] at hx
  obtain ⟨val, hval⟩ : ∃ val, leval ((l.drop off).take 8) = val := ⟨_, rfl⟩
  rw [hval] at hx ⊢
  have hx2 : (val : Int) < 18446744073709551616 := by omega
  have hx3 : (0 : Int) ≤ (val : Int) := by omega
  have Hval := Lib.hid hval
  clear h hv hval hx
  go_enter Try.func124, Try.ntmps124
  go_wp2_with (go_at_call 82; go_must (refine (ReadFixed_u64 k b v l off w.heap.size 0 #[.int .u64 0] 22 0 _ (H.out.fr ((Fr.refl [] w).alloc _) (by simp) (by simp)) hl (blk_new w _) (by rfl) (by omega) (by simp; omega) (fun g hg => by have := Hv.out g hg; simp; omega)).mono ?_); rw [Hval.out])
  rintro e w2 ⟨rfl, hb2, hp2, hf2⟩
  have hq2 : w2.heap[w.heap.size]? = some (.cells #[.int .u64 (val : Int)] 22 (0, 0)) := by simpa using hp2
  have c0 : w2.cell? ⟨w.heap.size, 0, none⟩ = some (.int .u64 (val : Int)) := by rw [blk_cell hq2]; rfl
  have Hb2 := Lib.hid hb2
  have Hf2 : Hid (Fr [b] w w2) := ((Fr.refl [b] w).alloc _).trans hf2 (by intro i hi hlt; simp at hi hlt; rcases hi with rfl | rfl; simp; omega)
  clear hb2 hp2 hf2 hq2
  go_wp2_with fail
  go_ret2
  exact ⟨rfl, Hb2.out, Hf2.out⟩

set_option maxRecDepth 100000 in
set_option maxHeartbeats 4000000 in
/-- Next, where so many bytes are left. -/
theorem BufNext_any (b : Nat) (v : Value) (l : List UInt8) (off m : Nat) (rd : Bool) (w : World) (h : BufR w b v l off rd) (hm : off + m ≤ l.length) (hp : 0 < l.length) :
    Calls Try.prog 115 #[.pointer (some ⟨b, 0, none⟩), .int .i64 (m : Int)] w fun e w' =>
      (∃ a c, e = .returned (.slice a m c) ∧ Sl w' (.slice a m c) (vbs ((l.drop off).take m)) ∧ (∀ g, (Value.slice a m c).ownBlock = some g → v.ownBlock = some g)) ∧ BufR w' b v l (off + m) (decide (0 < m)) ∧ Fr [b] w w' := by
  obtain ⟨hb, hs, hne, -, hl⟩ := h
  obtain ⟨a, cc, rfl, h1, h2, h3, h4⟩ := hs.shape
  obtain ⟨gs, os, rfl, hc⟩ := h3 hp
  unfold maxLen at h2
  have c2 : w.cell? ⟨b, 2, none⟩ = some (.bool rd) := by rw [blk_cell hb]; rfl
  have f2 : w.frozen? ⟨b, 2, none⟩ = false := blk_free hb _
  have hb1 : (w.setCell ⟨b, 2, none⟩ (.bool false)).heap[b]? = some (.cells #[.slice (some ⟨gs, os, none⟩) l.length cc, .int .i64 (off : Int), .bool false] 79 (0, 0)) := by simpa using blk_set hb 2 (.bool false)
  have hF1 : Fr [b] w (w.setCell ⟨b, 2, none⟩ (.bool false)) := (Fr.refl _ _).setCell (.inl (by simp)) _
  have hs1 : Sl (w.setCell ⟨b, 2, none⟩ (.bool false)) (.slice (some ⟨gs, os, none⟩) l.length cc) (vbs l) := hs.fr hF1 (by intro g hg; simp; rintro rfl; exact hne hg)
  have hB1 : BufR (w.setCell ⟨b, 2, none⟩ (.bool false)) b (.slice (some ⟨gs, os, none⟩) l.length cc) l off false := ⟨hb1, hs1, hne, by omega, hl⟩
  generalize hw1 : w.setCell ⟨b, 2, none⟩ (.bool false) = w1 at *
  have c0 : w1.cell? ⟨b, 0, none⟩ = some (.slice (some ⟨gs, os, none⟩) l.length cc) := by rw [blk_cell hb1]; rfl
  have c1 : w1.cell? ⟨b, 1, none⟩ = some (.int .i64 (off : Int)) := by rw [blk_cell hb1]; rfl
  have HB1 := Lib.hid hB1
  have Hb1 := Lib.hid hb1
  have HF1 := Lib.hid hF1
  have Hs1 := Lib.hid hs1
  have Hw1 := Lib.hid hw1
  have Hne := Lib.hid hne
  have hlo : ¬ ((l.length - off : Nat) : Int) < (m : Int) := by omega
  have t1 : (off : Int) + (m : Int) ≤ (l.length : Int) := by omega
  have t2 : (off : Int) + (m : Int) ≤ (cc : Int) := by omega
  have t3 : (off : Int) ≤ (off : Int) + (m : Int) := by omega
  have Hc : Hid (Cells w1 gs (os + off) (vbs ((l.drop off).take m))) := drop_take_cells (hc.fr HF1.out (by simpa [Value.ownBlock] using hne)) off m
  have Hml : Hid (((l.drop off).take m).length = m) := by show _ = _; rw [List.length_take, List.length_drop]; omega
  have hlen : (off : Int) ≤ (l.length : Int) := by omega
  have hcap : (off : Int) ≤ (cc : Int) := by omega
  have hof : (off : Int) ≤ 1099511627776 := by omega
  have t0 : (0 : Int) ≤ (m : Int) := by omega
  have e1 : IntKind.i64.wrap ((off : Int) + (m : Int)) = (off : Int) + (m : Int) := IntWalk.i64_in _ (by omega)
  have e2 : ((off : Int) + (m : Int)).toNat = off + m := by omega
  have e3 : off + m - off = m := by omega
  have E1 := Lib.hid e1
  have E2 := Lib.hid e2
  have E3 := Lib.hid e3
  clear e1 e2 e3 hb hs hne h1 h3 h4 hb1 hF1 hs1 hB1 hw1 hc
  have d2 : w1.cell? ⟨b, 2, none⟩ = some (.bool false) := by rw [blk_cell Hb1.out]; rfl
  have g1 : w1.frozen? ⟨b, 1, none⟩ = false := blk_free Hb1.out _
  have g2 : w1.frozen? ⟨b, 2, none⟩ = false := blk_free Hb1.out _
  have fin : ∀ k (wz : World), wz = ((w1.drewN k).setCell ⟨b, 1, none⟩ (.int .i64 ((off : Int) + (m : Int)))).setCell ⟨b, 2, none⟩ (.bool (decide (0 < m))) →
      BufR wz b (.slice (some ⟨gs, os, none⟩) l.length cc) l (off + m) (decide (0 < m)) ∧ Fr [b] w wz ∧ Fr [b] w1 wz := by
    intro k wz hz
    subst hz
    have f : Fr [b] w1 (((w1.drewN k).setCell ⟨b, 1, none⟩ (.int .i64 ((off : Int) + (m : Int)))).setCell ⟨b, 2, none⟩ (.bool (decide (0 < m)))) := (((Fr.refl _ _).drewN _).setCell (.inl (by simp)) _).setCell (.inl (by simp)) _
    refine ⟨⟨?_, Hs1.out.fr f (by intro g hg; simp; rintro rfl; exact Hne.out hg), Hne.out, by omega, hl⟩, HF1.out.trans f (fun i h _ => h), f⟩
    simpa using blk_set (w := (w1.drewN k).setCell ⟨b, 1, none⟩ (.int .i64 ((off : Int) + (m : Int)))) (blk_set (w := w1.drewN k) Hb1.out 1 _) 2 (.bool (decide (0 < m)))
  have Fin := Lib.hid fin
  clear fin
  have hne2 : gs ∉ [b] := by have := Hne.out; simpa [Value.ownBlock] using this
  have Hne2 := Lib.hid hne2
  clear hne2
  by_cases hcc : cc = off
  · subst hcc
    have e1 := E1.out
    have e2 := E2.out
    go_enter Try.func115, Try.ntmps115
    go_wp2_with (go_at_call 69; rw [Hw1.out]; refine (BufLen_any b _ l cc (l.length - cc) false _ HB1.out (by omega)).mono ?_; rintro e w' ⟨rfl, k, rfl⟩)
    go_quiet (fail)
    go_wp2_with fail
    go_ret
    obtain ⟨q1, q2, q3⟩ := Fin.out (k + nq) _ rfl
    refine ⟨⟨_, _, rfl, ?_, fun g hg => hg⟩, q1, q2⟩
    have hz : (l.drop cc).take m = [] := List.eq_nil_of_length_eq_zero (by rw [Hml.out]; omega)
    rw [hz]
    exact sl_mk (by simp; omega) (by omega) (by unfold maxLen; omega) (fun i v hi => by simp at hi)
  · have e1 := E1.out
    have e2 := E2.out
    go_enter Try.func115, Try.ntmps115
    go_wp2_with (go_at_call 69; rw [Hw1.out]; refine (BufLen_any b _ l off (l.length - off) false _ HB1.out (by omega)).mono ?_; rintro e w' ⟨rfl, k, rfl⟩)
    go_quiet (fail)
    go_wp2_with fail
    go_ret
    obtain ⟨q1, q2, q3⟩ := Fin.out (k + nq) _ rfl
    refine ⟨⟨_, _, rfl, ?_, fun g hg => hg⟩, q1, q2⟩
    exact sl_mk (by rw [List.length_map, Hml.out]) (by omega) (by unfold maxLen; omega) (Hc.out.fr q3 Hne2.out)

end Go.Proofs.Ytahohmdfllgedaa

namespace Go.Proofs.Ytahohmdfllgedaa
open Go.RowKit

/-- What stays while an expression is executed: the world behind the set-up, the code, the registers, what memory is read by. -/
structure CxD where
  W : World
  code : List UInt8
  pv : Value
  rgv : Value
  cfa : Int
  base : Int
  wb : Nat
  mb : Nat
  mv : Value
abbrev CxD.rf (D : CxD) : Value := .func (.func 60) #[] #[.pointer (some ⟨D.wb, 0, none⟩), .pointer (some ⟨D.mb, 0, none⟩)]
structure CxS (D : CxD) (x : LWorld) : Prop where
  prog : Sl D.W D.pv (vbs D.code)
  plt : ∀ g, D.pv.ownBlock = some g → g < D.W.heap.size
  clen : D.code.length ≤ 100000
  rlen : x.regs.length ≤ 100
  regs : ∃ a c, D.rgv = .slice a x.regs.length c ∧ (0 < x.regs.length → ∃ g, a = some ⟨g, 0, none⟩ ∧ ∀ i (h : i < x.regs.length), ∃ b, D.W.cell? ⟨g, i, none⟩ = some (.pointer (some ⟨b, 0, none⟩)) ∧ D.W.cell? ⟨b, 0, none⟩ = some (.int .u64 ((x.regs[i] : Nat) : Int)))
  rbd : ∀ n ∈ x.regs, n < 18446744073709551616
  cat_ : D.W.cell? ⟨D.wb, 3, none⟩ = some (.int .u64 (x.at_ : Int))
  cmm : D.W.cell? ⟨D.mb, 0, none⟩ = some D.mv
  mm : Sl D.W D.mv (vbs x.mem)
  mlen : x.mem.length ≤ 10000
  abd : x.at_ + x.mem.length < 18446744073709551616

/-- An op.Piece's bytes. -/
def OB (base : Nat) (w : World) (v : Value) (p : LPiece) : Prop :=
  (p.kind = 2 ∧ p.stk = false ∧ (∃ g c, v = .slice (some ⟨g, 0, none⟩) p.bytes.length c) ∧ w.ownsRow base 5 1 v p.bytes.length (vbs p.bytes)) ∨
  (¬ (p.kind = 2 ∧ p.stk = false) ∧ v = .slice none 0 0)
abbrev ocell (p : LPiece) (v : Value) : List Value := [vi p.size, .int .u8 p.kind, .int .u64 ((u64of p.value : Nat) : Int), v]
def ocells (qs : List (LPiece × Value)) : List Value := qs.flatMap fun q => ocell q.1 q.2
abbrev TI : List Nat := [168, 79, 2, 133]
abbrev cxCells (D : CxD) (bb : Nat) (kv qv : Value) : Array Value :=
  #[.pointer (some ⟨bb, 0, none⟩), D.pv, kv, qv, vi 8, .int .u64 0, vi D.cfa, vi D.base, vi 0, D.rgv, .iface 95 (.agg #[]), .int .u64 16, .int .u64 7, .int .u64 6, .int .u64 0, .nilFunc, .nilIface, .nilFunc, D.rf]
structure CxV (D : CxD) (cb : Nat) (w : World) (k : List Int) (ps : List LPiece) (p : Nat) (bb : Nat) (bv : Value) (bl : List UInt8) (off : Nat) (rd : Bool) (kv qv : Value) (qs : List (LPiece × Value)) : Prop where
  blk : w.heap[cb]? = some (.cells (cxCells D bb kv qv) 168 (0, 0))
  fr : Fr [] D.W w
  ge : D.W.heap.size ≤ cb
  bge : D.W.heap.size ≤ bb
  buf : BufR w bb bv bl off rd
  bsl : Sl D.W bv (vbs bl)
  bD : ∀ g, bv.ownBlock = some g → g < D.W.heap.size
  pos : bl.drop off = D.code.drop p
  ple : p ≤ D.code.length
  own : w.ownsRow D.W.heap.size 2 1 kv k.length (vis k)
  pcs : w.ownsRow D.W.heap.size 133 4 qv ps.length (ocells qs)
  pn : ps = [] → qv = .slice none 0 0
  pq : qs.map (·.1) = ps
  pb : ∀ q ∈ qs, OB D.W.heap.size w q.2 q.1
def CxR (D : CxD) (cb : Nat) (w : World) (k : List Int) (ps : List LPiece) (p : Nat) : Prop := ∃ bb bv bl off rd kv qv qs, CxV D cb w k ps p bb bv bl off rd kv qv qs

/-- A cell of a row is set. -/
theorem own_set {w : World} {base e g n c : Nat} {xs : List Value} (h : w.ownsRow base e 1 (.slice (some ⟨g, 0, none⟩) n c) n xs) {i : Nat} (hi : i < n) (u : Value) :
    (w.setCell ⟨g, i, none⟩ u).ownsRow base e 1 (.slice (some ⟨g, 0, none⟩) n c) n (xs.set i u) := by
  have hl := h.1
  refine ⟨by simpa using hl, ?_⟩
  rcases h.2 with ⟨hv, _⟩ | ⟨g', cap, cur, hv, hb, hg, hnc, hcm, hcs, htake⟩
  · cases hv
  · simp only [Value.slice.injEq, Option.some.injEq, Addr.mk.injEq] at hv
    obtain ⟨⟨rfl, -, -⟩, -, rfl⟩ := hv
    refine .inr ⟨g, _, cur.setIfInBounds i u, rfl, hb, blk_set hg i u, hnc, hcm, by simpa using hcs, ?_⟩
    rw [← htake, Array.toList_setIfInBounds, List.take_set]

theorem own_free {w : World} {base e g n c : Nat} {xs : List Value} (h : w.ownsRow base e 1 (.slice (some ⟨g, 0, none⟩) n c) n xs) (i : Nat) : w.frozen? ⟨g, i, none⟩ = false := by
  rcases h.2 with ⟨hv, _⟩ | ⟨g', cap, cur, hv, hb, hg, _⟩
  · cases hv
  · simp only [Value.slice.injEq, Option.some.injEq, Addr.mk.injEq] at hv
    obtain ⟨⟨rfl, -, -⟩, -, -⟩ := hv
    exact blk_free hg i

section
variable {D : CxD} {cb : Nat} {w w' : World} {k : List Int} {ps : List LPiece} {p bb : Nat} {bv : Value} {bl : List UInt8} {off : Nat} {rd : Bool} {kv qv : Value} {qs : List (LPiece × Value)}
theorem OB.fr {base : Nat} {v : Value} {q : LPiece} (h : OB base w v q) (f : FrT TI w w') : OB base w' v q :=
  h.imp (fun ⟨h1, h2, h3, h4⟩ => ⟨h1, h2, h3, f.own h4 (by decide)⟩) id
theorem CxV.cell (h : CxV D cb w k ps p bb bv bl off rd kv qv qs) (i : Nat) : w.cell? ⟨cb, i, none⟩ = (cxCells D bb kv qv)[i]? := blk_cell h.blk i
theorem CxV.free (h : CxV D cb w k ps p bb bv bl off rd kv qv qs) (i : Nat) : w.frozen? ⟨cb, i, none⟩ = false := blk_free h.blk i
theorem CxV.bne (h : CxV D cb w k ps p bb bv bl off rd kv qv qs) : bb ≠ cb := by
  intro e
  have h1 := h.buf.1
  rw [e, h.blk] at h1
  simp at h1
theorem CxV.kv_ne (h : CxV D cb w k ps p bb bv bl off rd kv qv qs) : kv.ownBlock ≠ some cb ∧ kv.ownBlock ≠ some bb := by
  refine ⟨fun e => ?_, fun e => ?_⟩
  · have h1 := own_btype h.own e
    rw [btype_of h.blk] at h1; cases h1
  · have h1 := own_btype h.own e
    rw [btype_of h.buf.1] at h1; cases h1
theorem CxV.qv_ne (h : CxV D cb w k ps p bb bv bl off rd kv qv qs) : qv.ownBlock ≠ some cb ∧ qv.ownBlock ≠ some bb := by
  refine ⟨fun e => ?_, fun e => ?_⟩
  · have h1 := own_btype h.pcs e
    rw [btype_of h.blk] at h1; cases h1
  · have h1 := own_btype h.pcs e
    rw [btype_of h.buf.1] at h1; cases h1
/-- The code's slice lies where nothing turns. -/
theorem CxV.bv_ne (h : CxV D cb w k ps p bb bv bl off rd kv qv qs) {g : Nat} (hg : D.W.heap.size ≤ g) : bv.ownBlock ≠ some g := fun e => by have := h.bD g e; omega
theorem CxV.call (h : CxV D cb w k ps p bb bv bl off rd kv qv qs) (f : Fr [] w w') : CxV D cb w' k ps p bb bv bl off rd kv qv qs :=
  ⟨f.get h.blk (by simp), h.fr.then f, h.ge, h.bge, h.buf.fr f (by simp) (by simp), h.bsl, h.bD, h.pos, h.ple, own_fr h.own f (by simp), own_fr h.pcs f (by simp), h.pn, h.pq, fun q hq => (h.pb q hq).fr (.of0 f)⟩
theorem CxR.call (h : CxR D cb w k ps p) (f : Fr [] w w') : CxR D cb w' k ps p := by
  obtain ⟨bb, bv, bl, off, rd, kv, qv, qs, h⟩ := h; exact ⟨bb, bv, bl, off, rd, kv, qv, qs, h.call f⟩
theorem CxR.fr (h : CxR D cb w k ps p) : Fr [] D.W w := by
  obtain ⟨bb, bv, bl, off, rd, kv, qv, qs, h⟩ := h; exact h.fr
/-- Behind a call that read from the buffer. -/
theorem CxV.read (h : CxV D cb w k ps p bb bv bl off rd kv qv qs) {off' : Nat} {rd' : Bool} (hb : BufR w' bb bv bl off' rd') (f : Fr [bb] w w') {p' : Nat} (hp : bl.drop off' = D.code.drop p') (hle : p' ≤ D.code.length) : CxV D cb w' k ps p' bb bv bl off' rd' kv qv qs := by
  have ft : FrT TI w w' := FrT.of f (fun i hi _ => by simp at hi; subst hi; exact ⟨_, by simp, btype_of h.buf.1, btype_of hb.1⟩)
  refine ⟨f.get h.blk (by simpa using h.bne.symm), h.fr.trans f (fun i hi hlt => by simp at hi; subst hi; have := h.bge; omega), h.ge, h.bge, hb, h.bsl, h.bD, hp, hle, ?_, ?_, h.pn, h.pq, fun q hq => (h.pb q hq).fr ft⟩
  · exact own_fr h.own f (fun g hg => by simp; rintro rfl; exact h.kv_ne.2 hg)
  · exact own_fr h.pcs f (fun g hg => by simp; rintro rfl; exact h.qv_ne.2 hg)
theorem cx_set (h : w.heap[cb]? = some (.cells (cxCells D bb kv qv) 168 (0, 0))) (i : Nat) (u : Value) : FrT TI w (w.setCell ⟨cb, i, none⟩ u) := (FrT.refl _ _).setCell h (by simp) u
/-- The stack is another one. -/
theorem CxV.stk (h : CxV D cb w k ps p bb bv bl off rd kv qv qs) {w1 : World} (f0 : Fr [] D.W w1) (ft : FrT [2] w w1) {kv' : Value} {k' : List Int} {n' : Nat} (hn : n' = k'.length)
    (o : w1.ownsRow D.W.heap.size 2 1 kv' n' (vis k')) : CxV D cb (w1.setCell ⟨cb, 2, none⟩ kv') k' ps p bb bv bl off rd kv' qv qs := by
  subst hn
  have hb1 := ft.get h.blk (by decide)
  have f2 := (ft.mono (T' := TI) (by simp)).trans (cx_set hb1 2 kv')
  have fs := (Fr.refl [cb] w1).setCell (p := ⟨cb, 2, none⟩) (.inl (by simp)) kv'
  have hk : kv'.ownBlock ≠ some cb := by
    intro e
    have h1 := own_btype o e
    rw [btype_of hb1] at h1; cases h1
  have hbf : BufR w1 bb bv bl off rd := ⟨ft.get h.buf.1 (by decide), h.bsl.fr f0 (by simp), h.buf.2.2⟩
  refine ⟨by simpa using blk_set hb1 2 kv', f0.setCell (.inr h.ge) _, h.ge, h.bge, hbf.fr fs (by simpa using h.bne) (fun g hg => by simp; rintro rfl; exact h.bv_ne h.ge hg), h.bsl, h.bD, h.pos, h.ple, ?_, ?_, h.pn, h.pq, fun q hq => (h.pb q hq).fr f2⟩
  · exact own_fr o fs (fun g hg => by simp; rintro rfl; exact hk hg)
  · exact own_fr (ft.own h.pcs (by decide)) fs (fun g hg => by simp; rintro rfl; exact h.qv_ne.1 hg)
theorem CxV.ow (h : CxV D cb w k ps p bb bv bl off rd kv qv qs) {w7 : World} (f : Fr [] w w7) : w7.ownsRow D.W.heap.size 2 1 kv k.length (vis k) := own_fr h.own f (by simp)
/-- Behind an append to the stack, ahead of its store. -/
theorem CxV.app {ka : Option Addr} {kc : Nat} (h : CxV D cb w k ps p bb bv bl off rd (.slice ka k.length kc) qv qs) {w0 w1 : World} (f : Fr [] w w0) (ht : FrT [2] w0 w1) :
    w1.heap[cb]? = some (.cells (cxCells D bb (.slice ka k.length kc) qv) 168 (0, 0)) := ht.get (f.get h.blk (by simp)) (by decide)
theorem CxV.pushed {ka : Option Addr} {kc : Nat} (h : CxV D cb w k ps p bb bv bl off rd (.slice ka k.length kc) qv qs) {w0 w1 : World} (f : Fr [] w w0) (hf : Fr (Value.slice ka k.length kc).ownBlock.toList w0 w1) (ht : FrT [2] w0 w1)
    {a' : Option Addr} {c' : Nat} {v : Int} (ho : w1.ownsRow D.W.heap.size 2 1 (.slice a' (k.length + 1) c') (k.length + 1) (vis k ++ [vi v])) :
    CxR D cb (w1.setCell ⟨cb, 2, none⟩ (.slice a' (k.length + 1) c')) (k ++ [v]) ps p :=
  ⟨bb, bv, bl, off, rd, _, qv, qs, h.stk ((h.fr.then f).app (own_fr h.own f (by simp)) (Nat.le_refl _) hf) ((FrT.of0 f).trans ht) (n' := k.length + 1) (k' := k ++ [v]) (by simp) (by simpa using ho)⟩
/-- A shorter stack. -/
theorem CxV.cut {ka : Option Addr} {kc m : Nat} (h : CxV D cb w k ps p bb bv bl off rd (.slice ka k.length kc) qv qs) {w1 : World} (f : Fr [] w w1) (hm : m ≤ k.length) :
    CxV D cb (w1.setCell ⟨cb, 2, none⟩ (.slice ka m kc)) (k.take m) ps p bb bv bl off rd (.slice ka m kc) qv qs := by
  have o := own_take h.own m hm
  have o2 := own_fr o f (by simp)
  exact h.stk (h.fr.then f) (.of0 f) (n' := m) (k' := k.take m) (by simp; omega) (by simpa using o2)
/-- An entry of the stack is another one. -/
theorem CxV.poke {g kc : Nat} (h : CxV D cb w k ps p bb bv bl off rd (.slice (some ⟨g, 0, none⟩) k.length kc) qv qs) {i : Nat} (hi : i < k.length) (u : Int) :
    CxV D cb (w.setCell ⟨g, i, none⟩ (vi u)) (k.set i u) ps p bb bv bl off rd (.slice (some ⟨g, 0, none⟩) k.length kc) qv qs := by
  have hg : ∃ cs, w.heap[g]? = some (.cells cs 2 (0, 0)) := by
    rcases h.own.2 with ⟨hv, _⟩ | ⟨g', cap, cur, hv, hb, hg, _⟩
    · cases hv
    · simp only [Value.slice.injEq, Option.some.injEq, Addr.mk.injEq] at hv
      obtain ⟨⟨rfl, -, -⟩, -, -⟩ := hv
      exact ⟨cur, hg⟩
  obtain ⟨cs, hg⟩ := hg
  have hge : D.W.heap.size ≤ g := (h.own.lt g rfl).1
  have ft : FrT [2] w (w.setCell ⟨g, i, none⟩ (vi u)) := (FrT.refl _ _).setCell hg (by simp) _
  have f0 : Fr [] D.W (w.setCell ⟨g, i, none⟩ (vi u)) := h.fr.setCell (.inr hge) _
  have o := own_set h.own hi (vi u)
  refine ⟨ft.get h.blk (by decide), f0, h.ge, h.bge, ⟨ft.get h.buf.1 (by decide), h.bsl.fr f0 (by simp), h.buf.2.2⟩, h.bsl, h.bD, h.pos, h.ple, ?_, ft.own h.pcs (by decide), h.pn, h.pq, fun q hq => (h.pb q hq).fr (ft.mono (by simp))⟩
  have e : (vis k).set i (vi u) = vis (k.set i u) := by simp [vis, List.map_set]
  rw [← e]; simpa using o
theorem CxV.cutL {k1 r : List Int} {ka : Option Addr} {n kc : Nat} (h : CxV D cb w (k1 ++ r) ps p bb bv bl off rd (.slice ka n kc) qv qs) {w1 : World} (f : Fr [] w w1) (hn : n = k1.length + r.length) :
    CxV D cb (w1.setCell ⟨cb, 2, none⟩ (.slice ka k1.length kc)) k1 ps p bb bv bl off rd (.slice ka k1.length kc) qv qs := by
  have e : n = (k1 ++ r).length := by rw [hn]; simp
  subst e
  have := h.cut (m := k1.length) f (by simp)
  simpa using this
end
end Go.Proofs.Ytahohmdfllgedaa
