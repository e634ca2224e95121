/- ReadFixed, by the type of what is read. -/
import Derived.Test.YtahohmdfllgedaaIo2
namespace Go.Proofs.Ytahohmdfllgedaa
open Go.RowKit

theorem m_Uint16 (w : World) : (method 337 95 (.agg #[]) "Uint16").run Try.prog w = .ok (150, .agg #[]) w := by kernel_rfl
theorem m_Uint32 (w : World) : (method 337 95 (.agg #[]) "Uint32").run Try.prog w = .ok (151, .agg #[]) w := by kernel_rfl
theorem m_Uint64 (w : World) : (method 337 95 (.agg #[]) "Uint64").run Try.prog w = .ok (152, .agg #[]) w := by kernel_rfl
theorem cells_blk {w : World} {g : Nat} {l : List UInt8} {t : TypeId} {fz : Nat × Nat} (h : w.heap[g]? = some (.cells (vbs l).toArray t fz)) : Cells w g 0 (vbs l) :=
  fun i v hi => by rw [Nat.zero_add, blk_cell h]; simpa using hi

set_option maxRecDepth 100000 in
set_option maxHeartbeats 4000000 in
theorem ReadFixed_u16 (k : Bool) (b : Nat) (v : Value) (l : List UInt8) (off : Nat) (p po : Nat) (cs : Array Value) (pt : TypeId) (old : Int) (w : World) (h : SrcR k w b v l off) (hl : off + 2 ≤ l.length)
    (hp : w.heap[p]? = some (.cells cs pt (0, 0))) (hpo : cs[po]? = some (.int .u16 old)) (hpb : p ≠ b) (hb : b < w.heap.size) (hv : ∀ g, v.ownBlock = some g → g < w.heap.size ∧ g ≠ p) :
    Calls Try.prog 82 #[srcV k b, .iface 95 (.agg #[]), .iface 189 (.pointer (some ⟨p, po, none⟩))] w fun e w' =>
      e = .returned .nilIface ∧ SrcR k w' b v l (off + 2) ∧ w'.heap[p]? = some (.cells (cs.setIfInBounds po (.int .u16 ((leval ((l.drop off).take 2) : Nat) : Int))) pt (0, 0)) ∧ Fr [b, p] w w' := by
  have ta_pu8 : ∀ (a : Option Addr) (w : World), (Instr.typeAssert (.iface 189 (.pointer a)) 20 187 true).run Try.prog w = .ok (.tuple #[.pointer none, .bool false]) w := fun _ _ => by kernel_rfl
  have ta_pi8 : ∀ (a : Option Addr) (w : World), (Instr.typeAssert (.iface 189 (.pointer a)) 20 188 true).run Try.prog w = .ok (.tuple #[.pointer none, .bool false]) w := fun _ _ => by kernel_rfl
  have ta_pu16 : ∀ (a : Option Addr) (w : World), (Instr.typeAssert (.iface 189 (.pointer a)) 20 189 true).run Try.prog w = .ok (.tuple #[.pointer a, .bool true]) w := fun _ _ => by kernel_rfl
  have ta_pi16 : ∀ (a : Option Addr) (w : World), (Instr.typeAssert (.iface 189 (.pointer a)) 20 190 true).run Try.prog w = .ok (.tuple #[.pointer none, .bool false]) w := fun _ _ => by kernel_rfl
  have hm := m_Uint16
  have hmk : ∀ w, (Instr.makeSlice 23 (.int .i64 2) (.int .i64 2)).run Try.prog w = .ok (.slice (some ⟨w.heap.size, 0, none⟩) 2 2) (w.alloc (.cells #[.int .u8 0, .int .u8 0] 5 (0, 0))) := fun _ => by kernel_rfl
  have H := Lib.hid h
  have Hp := Lib.hid hp
  have Hpo := Lib.hid hpo
  have Hpb := Lib.hid hpb
  have Hv := Lib.hid hv
  have hplt := lt_heap hp
  clear h hp hpo hpb hv
  obtain ⟨x0, x1, hx⟩ : ∃ x0 x1, (l.drop off).take 2 = [x0, x1] := by
    have hxl : ((l.drop off).take 2).length = 2 := by rw [List.length_take, List.length_drop]; omega
    match (l.drop off).take 2, hxl with
    | [x0, x1], _ => exact ⟨x0, x1, rfl⟩
  have Hx := Lib.hid hx
  rw [hx]
  clear hx
  go_enter Try.func82, Try.ntmps82
  go_wp2_with (go_at_call 113; go_must (refine (readFull_any k b v l off w.heap.size 2 2 _ _ (H.out.fr ((Fr.refl [] w).alloc _) (by simp) (by simp)) (by decide) (by decide) (by decide) hl (blk_new w _) (by rfl) (by omega) (fun h => by have := (Hv.out _ h).1; omega)).mono ?_); rw [Hx.out]; rintro e w2 ⟨rfl, hb2, hg2, hf2⟩; have Hb2 := Lib.hid hb2; have Hg2 := Lib.hid hg2; have Hf2 : Hid (Fr [b] w w2) := ((Fr.refl [b] w).alloc _).trans hf2 (by intro i hi hlt; simp at hi hlt; rcases hi with rfl | rfl; simp; omega); clear hb2 hg2 hf2)
  refine ((Uint16_any w.heap.size 0 2 2 x0 x1 _ (cells_blk Hg2.out) (by decide))).mono ?_
  obtain ⟨val, hval⟩ : ∃ val, leval [x0, x1] = val := ⟨_, rfl⟩
  rw [hval]
  have Hval := Lib.hid hval
  clear hval
  rintro e w3 ⟨rfl, hf3⟩
  have Hb3 : Hid (SrcR k w3 b v l (off + 2)) := Hb2.out.fr hf3 (by simp) (by simp)
  have hp3 : w3.heap[p]? = some (.cells cs pt (0, 0)) := hf3.get (Hf2.out.get Hp.out (by simpa using Hpb.out)) (by simp)
  have Hf3 : Hid (Fr [b] w w3) := Hf2.out.then hf3
  have d0 : w3.cell? ⟨p, po, none⟩ = some (.int .u16 old) := by rw [blk_cell hp3]; exact Hpo.out
  have e0 : w3.frozen? ⟨p, po, none⟩ = false := blk_free hp3 _
  have Hp3 := Lib.hid hp3
  clear hp3 hf3
  go_wp2_with fail
  go_ret
  have F : Fr [b, p] w (w3.setCell ⟨p, po, none⟩ (.int .u16 (val : Int))) := (Hf3.out.mono (by simp)).setCell (.inl (by simp)) _
  exact ⟨rfl, Hb3.out.fr ((Fr.refl [p] w3).setCell (.inl (by simp)) _) (by simpa using Hpb.out.symm) (by intro g hg; simpa using (Hv.out g hg).2), by rw [Hval.out]; exact blk_set Hp3.out po _, F⟩

set_option maxRecDepth 100000 in
set_option maxHeartbeats 4000000 in
theorem ReadFixed_i16 (k : Bool) (b : Nat) (v : Value) (l : List UInt8) (off : Nat) (p po : Nat) (cs : Array Value) (pt : TypeId) (old : Int) (w : World) (h : SrcR k w b v l off) (hl : off + 2 ≤ l.length)
    (hp : w.heap[p]? = some (.cells cs pt (0, 0))) (hpo : cs[po]? = some (.int .i16 old)) (hpb : p ≠ b) (hb : b < w.heap.size) (hv : ∀ g, v.ownBlock = some g → g < w.heap.size ∧ g ≠ p) :
    Calls Try.prog 82 #[srcV k b, .iface 95 (.agg #[]), .iface 190 (.pointer (some ⟨p, po, none⟩))] w fun e w' =>
      e = .returned .nilIface ∧ SrcR k w' b v l (off + 2) ∧ w'.heap[p]? = some (.cells (cs.setIfInBounds po (.int .i16 (IntKind.i16.wrap ((leval ((l.drop off).take 2) : Nat) : Int)))) pt (0, 0)) ∧ Fr [b, p] w w' := by
  have ta_pu8 : ∀ (a : Option Addr) (w : World), (Instr.typeAssert (.iface 190 (.pointer a)) 20 187 true).run Try.prog w = .ok (.tuple #[.pointer none, .bool false]) w := fun _ _ => by kernel_rfl
  have ta_pi8 : ∀ (a : Option Addr) (w : World), (Instr.typeAssert (.iface 190 (.pointer a)) 20 188 true).run Try.prog w = .ok (.tuple #[.pointer none, .bool false]) w := fun _ _ => by kernel_rfl
  have ta_pu16 : ∀ (a : Option Addr) (w : World), (Instr.typeAssert (.iface 190 (.pointer a)) 20 189 true).run Try.prog w = .ok (.tuple #[.pointer none, .bool false]) w := fun _ _ => by kernel_rfl
  have ta_pi16 : ∀ (a : Option Addr) (w : World), (Instr.typeAssert (.iface 190 (.pointer a)) 20 190 true).run Try.prog w = .ok (.tuple #[.pointer a, .bool true]) w := fun _ _ => by kernel_rfl
  have hm := m_Uint16
  have hmk : ∀ w, (Instr.makeSlice 23 (.int .i64 2) (.int .i64 2)).run Try.prog w = .ok (.slice (some ⟨w.heap.size, 0, none⟩) 2 2) (w.alloc (.cells #[.int .u8 0, .int .u8 0] 5 (0, 0))) := fun _ => by kernel_rfl
  have H := Lib.hid h
  have Hp := Lib.hid hp
  have Hpo := Lib.hid hpo
  have Hpb := Lib.hid hpb
  have Hv := Lib.hid hv
  have hplt := lt_heap hp
  clear h hp hpo hpb hv
  obtain ⟨x0, x1, hx⟩ : ∃ x0 x1, (l.drop off).take 2 = [x0, x1] := by
    have hxl : ((l.drop off).take 2).length = 2 := by rw [List.length_take, List.length_drop]; omega
    match (l.drop off).take 2, hxl with
    | [x0, x1], _ => exact ⟨x0, x1, rfl⟩
  have Hx := Lib.hid hx
  rw [hx]
  clear hx
  go_enter Try.func82, Try.ntmps82
  go_wp2_with (go_at_call 113; go_must (refine (readFull_any k b v l off w.heap.size 2 2 _ _ (H.out.fr ((Fr.refl [] w).alloc _) (by simp) (by simp)) (by decide) (by decide) (by decide) hl (blk_new w _) (by rfl) (by omega) (fun h => by have := (Hv.out _ h).1; omega)).mono ?_); rw [Hx.out]; rintro e w2 ⟨rfl, hb2, hg2, hf2⟩; have Hb2 := Lib.hid hb2; have Hg2 := Lib.hid hg2; have Hf2 : Hid (Fr [b] w w2) := ((Fr.refl [b] w).alloc _).trans hf2 (by intro i hi hlt; simp at hi hlt; rcases hi with rfl | rfl; simp; omega); clear hb2 hg2 hf2)
  refine ((Uint16_any w.heap.size 0 2 2 x0 x1 _ (cells_blk Hg2.out) (by decide))).mono ?_
  obtain ⟨val, hval⟩ : ∃ val, leval [x0, x1] = val := ⟨_, rfl⟩
  rw [hval]
  have Hval := Lib.hid hval
  clear hval
  rintro e w3 ⟨rfl, hf3⟩
  have Hb3 : Hid (SrcR k w3 b v l (off + 2)) := Hb2.out.fr hf3 (by simp) (by simp)
  have hp3 : w3.heap[p]? = some (.cells cs pt (0, 0)) := hf3.get (Hf2.out.get Hp.out (by simpa using Hpb.out)) (by simp)
  have Hf3 : Hid (Fr [b] w w3) := Hf2.out.then hf3
  have d0 : w3.cell? ⟨p, po, none⟩ = some (.int .i16 old) := by rw [blk_cell hp3]; exact Hpo.out
  have e0 : w3.frozen? ⟨p, po, none⟩ = false := blk_free hp3 _
  have Hp3 := Lib.hid hp3
  clear hp3 hf3
  go_wp2_with fail
  go_ret
  have F : Fr [b, p] w (w3.setCell ⟨p, po, none⟩ (.int .i16 (IntKind.i16.wrap (val : Int)))) := (Hf3.out.mono (by simp)).setCell (.inl (by simp)) _
  exact ⟨rfl, Hb3.out.fr ((Fr.refl [p] w3).setCell (.inl (by simp)) _) (by simpa using Hpb.out.symm) (by intro g hg; simpa using (Hv.out g hg).2), by rw [Hval.out]; exact blk_set Hp3.out po _, F⟩

set_option maxRecDepth 100000 in
set_option maxHeartbeats 4000000 in
theorem ReadFixed_u32 (k : Bool) (b : Nat) (v : Value) (l : List UInt8) (off : Nat) (p po : Nat) (cs : Array Value) (pt : TypeId) (old : Int) (w : World) (h : SrcR k w b v l off) (hl : off + 4 ≤ l.length)
    (hp : w.heap[p]? = some (.cells cs pt (0, 0))) (hpo : cs[po]? = some (.int .u32 old)) (hpb : p ≠ b) (hb : b < w.heap.size) (hv : ∀ g, v.ownBlock = some g → g < w.heap.size ∧ g ≠ p) :
    Calls Try.prog 82 #[srcV k b, .iface 95 (.agg #[]), .iface 177 (.pointer (some ⟨p, po, none⟩))] w fun e w' =>
      e = .returned .nilIface ∧ SrcR k w' b v l (off + 4) ∧ w'.heap[p]? = some (.cells (cs.setIfInBounds po (.int .u32 ((leval ((l.drop off).take 4) : Nat) : Int))) pt (0, 0)) ∧ Fr [b, p] w w' := by
  have ta_pu8 : ∀ (a : Option Addr) (w : World), (Instr.typeAssert (.iface 177 (.pointer a)) 20 187 true).run Try.prog w = .ok (.tuple #[.pointer none, .bool false]) w := fun _ _ => by kernel_rfl
  have ta_pi8 : ∀ (a : Option Addr) (w : World), (Instr.typeAssert (.iface 177 (.pointer a)) 20 188 true).run Try.prog w = .ok (.tuple #[.pointer none, .bool false]) w := fun _ _ => by kernel_rfl
  have ta_pu16 : ∀ (a : Option Addr) (w : World), (Instr.typeAssert (.iface 177 (.pointer a)) 20 189 true).run Try.prog w = .ok (.tuple #[.pointer none, .bool false]) w := fun _ _ => by kernel_rfl
  have ta_pi16 : ∀ (a : Option Addr) (w : World), (Instr.typeAssert (.iface 177 (.pointer a)) 20 190 true).run Try.prog w = .ok (.tuple #[.pointer none, .bool false]) w := fun _ _ => by kernel_rfl
  have ta_pu32 : ∀ (a : Option Addr) (w : World), (Instr.typeAssert (.iface 177 (.pointer a)) 20 177 true).run Try.prog w = .ok (.tuple #[.pointer a, .bool true]) w := fun _ _ => by kernel_rfl
  have ta_pi32 : ∀ (a : Option Addr) (w : World), (Instr.typeAssert (.iface 177 (.pointer a)) 20 191 true).run Try.prog w = .ok (.tuple #[.pointer none, .bool false]) w := fun _ _ => by kernel_rfl
  have hm := m_Uint32
  have hmk : ∀ w, (Instr.makeSlice 23 (.int .i64 4) (.int .i64 4)).run Try.prog w = .ok (.slice (some ⟨w.heap.size, 0, none⟩) 4 4) (w.alloc (.cells #[.int .u8 0, .int .u8 0, .int .u8 0, .int .u8 0] 5 (0, 0))) := fun _ => by kernel_rfl
  have H := Lib.hid h
  have Hp := Lib.hid hp
  have Hpo := Lib.hid hpo
  have Hpb := Lib.hid hpb
  have Hv := Lib.hid hv
  have hplt := lt_heap hp
  clear h hp hpo hpb hv
  obtain ⟨x0, x1, x2, x3, hx⟩ : ∃ x0 x1 x2 x3, (l.drop off).take 4 = [x0, x1, x2, x3] := by
    have hxl : ((l.drop off).take 4).length = 4 := by rw [List.length_take, List.length_drop]; omega
    match (l.drop off).take 4, hxl with
    | [x0, x1, x2, x3], _ => exact ⟨x0, x1, x2, x3, rfl⟩
  have Hx := Lib.hid hx
  rw [hx]
  clear hx
  go_enter Try.func82, Try.ntmps82
  go_wp2_with (go_at_call 113; go_must (refine (readFull_any k b v l off w.heap.size 4 4 _ _ (H.out.fr ((Fr.refl [] w).alloc _) (by simp) (by simp)) (by decide) (by decide) (by decide) hl (blk_new w _) (by rfl) (by omega) (fun h => by have := (Hv.out _ h).1; omega)).mono ?_); rw [Hx.out]; rintro e w2 ⟨rfl, hb2, hg2, hf2⟩; have Hb2 := Lib.hid hb2; have Hg2 := Lib.hid hg2; have Hf2 : Hid (Fr [b] w w2) := ((Fr.refl [b] w).alloc _).trans hf2 (by intro i hi hlt; simp at hi hlt; rcases hi with rfl | rfl; simp; omega); clear hb2 hg2 hf2)
  refine ((Uint32_any w.heap.size 0 4 4 x0 x1 x2 x3 _ (cells_blk Hg2.out) (by decide))).mono ?_
  obtain ⟨val, hval⟩ : ∃ val, leval [x0, x1, x2, x3] = val := ⟨_, rfl⟩
  rw [hval]
  have Hval := Lib.hid hval
  clear hval
  rintro e w3 ⟨rfl, hf3⟩
  have Hb3 : Hid (SrcR k w3 b v l (off + 4)) := Hb2.out.fr hf3 (by simp) (by simp)
  have hp3 : w3.heap[p]? = some (.cells cs pt (0, 0)) := hf3.get (Hf2.out.get Hp.out (by simpa using Hpb.out)) (by simp)
  have Hf3 : Hid (Fr [b] w w3) := Hf2.out.then hf3
  have d0 : w3.cell? ⟨p, po, none⟩ = some (.int .u32 old) := by rw [blk_cell hp3]; exact Hpo.out
  have e0 : w3.frozen? ⟨p, po, none⟩ = false := blk_free hp3 _
  have Hp3 := Lib.hid hp3
  clear hp3 hf3
  go_wp2_with fail
  go_ret
  have F : Fr [b, p] w (w3.setCell ⟨p, po, none⟩ (.int .u32 (val : Int))) := (Hf3.out.mono (by simp)).setCell (.inl (by simp)) _
  exact ⟨rfl, Hb3.out.fr ((Fr.refl [p] w3).setCell (.inl (by simp)) _) (by simpa using Hpb.out.symm) (by intro g hg; simpa using (Hv.out g hg).2), by rw [Hval.out]; exact blk_set Hp3.out po _, F⟩

set_option maxRecDepth 100000 in
set_option maxHeartbeats 4000000 in
theorem ReadFixed_u64 (k : Bool) (b : Nat) (v : Value) (l : List UInt8) (off : Nat) (p po : Nat) (cs : Array Value) (pt : TypeId) (old : Int) (w : World) (h : SrcR k w b v l off) (hl : off + 8 ≤ l.length)
    (hp : w.heap[p]? = some (.cells cs pt (0, 0))) (hpo : cs[po]? = some (.int .u64 old)) (hpb : p ≠ b) (hb : b < w.heap.size) (hv : ∀ g, v.ownBlock = some g → g < w.heap.size ∧ g ≠ p) :
    Calls Try.prog 82 #[srcV k b, .iface 95 (.agg #[]), .iface 192 (.pointer (some ⟨p, po, none⟩))] w fun e w' =>
      e = .returned .nilIface ∧ SrcR k w' b v l (off + 8) ∧ w'.heap[p]? = some (.cells (cs.setIfInBounds po (.int .u64 ((leval ((l.drop off).take 8) : Nat) : Int))) pt (0, 0)) ∧ Fr [b, p] w w' := by
  have ta_pu8 : ∀ (a : Option Addr) (w : World), (Instr.typeAssert (.iface 192 (.pointer a)) 20 187 true).run Try.prog w = .ok (.tuple #[.pointer none, .bool false]) w := fun _ _ => by kernel_rfl
  have ta_pi8 : ∀ (a : Option Addr) (w : World), (Instr.typeAssert (.iface 192 (.pointer a)) 20 188 true).run Try.prog w = .ok (.tuple #[.pointer none, .bool false]) w := fun _ _ => by kernel_rfl
  have ta_pu16 : ∀ (a : Option Addr) (w : World), (Instr.typeAssert (.iface 192 (.pointer a)) 20 189 true).run Try.prog w = .ok (.tuple #[.pointer none, .bool false]) w := fun _ _ => by kernel_rfl
  have ta_pi16 : ∀ (a : Option Addr) (w : World), (Instr.typeAssert (.iface 192 (.pointer a)) 20 190 true).run Try.prog w = .ok (.tuple #[.pointer none, .bool false]) w := fun _ _ => by kernel_rfl
  have ta_pu32 : ∀ (a : Option Addr) (w : World), (Instr.typeAssert (.iface 192 (.pointer a)) 20 177 true).run Try.prog w = .ok (.tuple #[.pointer none, .bool false]) w := fun _ _ => by kernel_rfl
  have ta_pi32 : ∀ (a : Option Addr) (w : World), (Instr.typeAssert (.iface 192 (.pointer a)) 20 191 true).run Try.prog w = .ok (.tuple #[.pointer none, .bool false]) w := fun _ _ => by kernel_rfl
  have ta_pu64 : ∀ (a : Option Addr) (w : World), (Instr.typeAssert (.iface 192 (.pointer a)) 20 192 true).run Try.prog w = .ok (.tuple #[.pointer a, .bool true]) w := fun _ _ => by kernel_rfl
  have ta_pi64 : ∀ (a : Option Addr) (w : World), (Instr.typeAssert (.iface 192 (.pointer a)) 20 193 true).run Try.prog w = .ok (.tuple #[.pointer none, .bool false]) w := fun _ _ => by kernel_rfl
  have hm := m_Uint64
  have hmk : ∀ w, (Instr.makeSlice 23 (.int .i64 8) (.int .i64 8)).run Try.prog w = .ok (.slice (some ⟨w.heap.size, 0, none⟩) 8 8) (w.alloc (.cells #[.int .u8 0, .int .u8 0, .int .u8 0, .int .u8 0, .int .u8 0, .int .u8 0, .int .u8 0, .int .u8 0] 5 (0, 0))) := fun _ => by kernel_rfl
  have H := Lib.hid h
  have Hp := Lib.hid hp
  have Hpo := Lib.hid hpo
  have Hpb := Lib.hid hpb
  have Hv := Lib.hid hv
  have hplt := lt_heap hp
  clear h hp hpo hpb hv
  obtain ⟨x0, x1, x2, x3, x4, x5, x6, x7, hx⟩ : ∃ x0 x1 x2 x3 x4 x5 x6 x7, (l.drop off).take 8 = [x0, x1, x2, x3, x4, x5, x6, x7] := by
    have hxl : ((l.drop off).take 8).length = 8 := by rw [List.length_take, List.length_drop]; omega
    match (l.drop off).take 8, hxl with
    | [x0, x1, x2, x3, x4, x5, x6, x7], _ => exact ⟨x0, x1, x2, x3, x4, x5, x6, x7, rfl⟩
  have Hx := Lib.hid hx
  rw [hx]
  clear hx
  go_enter Try.func82, Try.ntmps82
  go_wp2_with (go_at_call 113; go_must (refine (readFull_any k b v l off w.heap.size 8 8 _ _ (H.out.fr ((Fr.refl [] w).alloc _) (by simp) (by simp)) (by decide) (by decide) (by decide) hl (blk_new w _) (by rfl) (by omega) (fun h => by have := (Hv.out _ h).1; omega)).mono ?_); rw [Hx.out]; rintro e w2 ⟨rfl, hb2, hg2, hf2⟩; have Hb2 := Lib.hid hb2; have Hg2 := Lib.hid hg2; have Hf2 : Hid (Fr [b] w w2) := ((Fr.refl [b] w).alloc _).trans hf2 (by intro i hi hlt; simp at hi hlt; rcases hi with rfl | rfl; simp; omega); clear hb2 hg2 hf2)
  refine ((Uint64_any w.heap.size 0 8 8 [x0, x1, x2, x3, x4, x5, x6, x7] _ (cells_blk Hg2.out) (by rfl) (by decide) (by decide) (by decide))).mono ?_
  obtain ⟨val, hval⟩ : ∃ val, leval [x0, x1, x2, x3, x4, x5, x6, x7] = val := ⟨_, rfl⟩
  rw [hval]
  have Hval := Lib.hid hval
  clear hval
  rintro e w3 ⟨rfl, hf3⟩
  have Hb3 : Hid (SrcR k w3 b v l (off + 8)) := Hb2.out.fr hf3 (by simp) (by simp)
  have hp3 : w3.heap[p]? = some (.cells cs pt (0, 0)) := hf3.get (Hf2.out.get Hp.out (by simpa using Hpb.out)) (by simp)
  have Hf3 : Hid (Fr [b] w w3) := Hf2.out.then hf3
  have d0 : w3.cell? ⟨p, po, none⟩ = some (.int .u64 old) := by rw [blk_cell hp3]; exact Hpo.out
  have e0 : w3.frozen? ⟨p, po, none⟩ = false := blk_free hp3 _
  have Hp3 := Lib.hid hp3
  clear hp3 hf3
  go_wp2_with fail
  go_ret
  have F : Fr [b, p] w (w3.setCell ⟨p, po, none⟩ (.int .u64 (val : Int))) := (Hf3.out.mono (by simp)).setCell (.inl (by simp)) _
  exact ⟨rfl, Hb3.out.fr ((Fr.refl [p] w3).setCell (.inl (by simp)) _) (by simpa using Hpb.out.symm) (by intro g hg; simpa using (Hv.out g hg).2), by rw [Hval.out]; exact blk_set Hp3.out po _, F⟩

end Go.Proofs.Ytahohmdfllgedaa
