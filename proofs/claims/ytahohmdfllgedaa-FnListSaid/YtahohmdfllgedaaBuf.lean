/- What the calls of the plain buffer (dvutil.Buffer) do, and slices.Clone of bytes. -/
import Derived.Test.YtahohmdfllgedaaBase
import Derived.Test.YtahohmdfllgedaaRows
namespace Go.Proofs.Ytahohmdfllgedaa
open Go.RowKit

/-- Block b holds a buffer over the slice v, which reads l; off of its bytes have been read. -/
def BufR (w : World) (b : Nat) (v : Value) (l : List UInt8) (off : Nat) (rd : Bool) : Prop :=
  w.heap[b]? = some (.cells #[v, .int .i64 (off : Int), .bool rd] 79 (0, 0)) ∧ Sl w v (vbs l) ∧ v.ownBlock ≠ some b ∧ off ≤ l.length ∧ l.length ≤ 1099511627776

theorem BufR.lt {w : World} {b : Nat} {v : Value} {l : List UInt8} {off : Nat} {rd : Bool} (h : BufR w b v l off rd) : b < w.heap.size := lt_heap h.1

/-- The slice's value, as the walk wants it. -/
theorem Sl.shape {w : World} {v : Value} {l : List UInt8} (h : Sl w v (vbs l)) :
    ∃ a c, v = .slice a l.length c ∧ l.length ≤ c ∧ c ≤ maxLen ∧ (0 < l.length → ∃ g o, a = some ⟨g, o, none⟩ ∧ Cells w g o (vbs l)) ∧ (a = none → l = [] ∧ c = 0) := by
  by_cases hl : 0 < l.length
  · obtain ⟨g, o, c, rfl, h1, h2, h3⟩ := sl_some h (by simpa using hl)
    exact ⟨_, c, by simp, by simpa using h1, h2, fun _ => ⟨g, o, rfl, h3⟩, fun h => by cases h⟩
  · have : l = [] := List.eq_nil_of_length_eq_zero (by omega)
    subst this
    rcases h with ⟨rfl, _⟩ | ⟨x, c, rfl, h1, h2, _⟩
    · exact ⟨none, 0, rfl, Nat.le_refl _, by simp [maxLen], fun h => by simp at h, fun _ => ⟨rfl, rfl⟩⟩
    · exact ⟨_, c, rfl, h1, h2, fun h => by simp at h, fun h => by cases h⟩

theorem BufR.fr {bs : List Nat} {w w' : World} {b : Nat} {v : Value} {l : List UInt8} {off : Nat} {rd : Bool} (h : BufR w b v l off rd) (f : Fr bs w w') (hb : b ∉ bs)
    (hv : ∀ g, v.ownBlock = some g → g ∉ bs) : BufR w' b v l off rd :=
  ⟨f.get h.1 hb, h.2.1.fr f hv, h.2.2⟩

theorem cell_vb {w : World} {g o : Nat} {l : List UInt8} (h : Cells w g o (vbs l)) (i : Nat) (hi : i < l.length) : w.cell? ⟨g, o + i, none⟩ = some (.int .u8 ((l[i].toNat : Nat) : Int)) :=
  h.cell (i := i) (by simp [hi])

set_option maxHeartbeats 400000 in
theorem NewBuffer_any (a : Option Addr) (n c : Nat) (w : World) :
    Calls Try.prog 34 #[.slice a n c] w fun e w' => e = .returned (.pointer (some ⟨w.heap.size, 0, none⟩)) ∧ w' = w.alloc (.cells #[.slice a n c, .int .i64 0, .bool false] 79 (0, 0)) := by
  go_enter Try.func34, Try.ntmps34
  go_wp2_with fail
  go_ret
  exact ⟨rfl, rfl⟩

set_option maxHeartbeats 400000 in
theorem BufLen_any (b : Nat) (v : Value) (l : List UInt8) (off m : Nat) (rd : Bool) (w : World) (h : BufR w b v l off rd) (hm : off + m = l.length) :
    Calls Try.prog 69 #[.pointer (some ⟨b, 0, none⟩)] w fun e w' => e = .returned (.int .i64 (m : Int)) ∧ ∃ k, w' = w.drewN k := by
  obtain ⟨hb, hs, hne, ho, hl⟩ := h
  obtain ⟨a, c, rfl, h1, h2, h3, -⟩ := hs.shape
  have c0 : w.cell? ⟨b, 0, none⟩ = some (.slice a l.length c) := by rw [blk_cell hb]; rfl
  have c1 : w.cell? ⟨b, 1, none⟩ = some (.int .i64 (off : Int)) := by rw [blk_cell hb]; rfl
  have hr : Hid ((l.length : Int) - off = m) := by show _ = _; omega
  clear hb hs hne h1 h2 h3 hm
  generalize l.length = n at *
  go_enter Try.func69, Try.ntmps69
  go_wp2_with fail
  go_quiet (fail)
  go_wp2
  go_ret
  exact ⟨by rw [hr.out]; rfl, _, rfl⟩

set_option maxRecDepth 100000 in
set_option maxHeartbeats 1000000 in
/-- ReadByte where a byte is left. -/
theorem BufReadByte_some (b : Nat) (v : Value) (l : List UInt8) (off : Nat) (rd : Bool) (w : World) (h : BufR w b v l off rd) (ho : off < l.length) :
    Calls Try.prog 76 #[.pointer (some ⟨b, 0, none⟩)] w fun e w' =>
      e = .returned (.tuple #[vb l[off], .nilIface]) ∧ BufR w' b v l (off + 1) true ∧ Fr [b] w w' := by
  have hB := h
  obtain ⟨hb, hs, hne, -, hl⟩ := h
  obtain ⟨a, c, rfl, h1, h2, h3, -⟩ := hs.shape
  obtain ⟨g, o, rfl, hc⟩ := h3 (by omega)
  have hgb : g ≠ b := by simpa [Value.ownBlock] using hne
  have c0 : w.cell? ⟨b, 0, none⟩ = some (.slice (some ⟨g, o, none⟩) l.length c) := by rw [blk_cell hb]; rfl
  have c1 : w.cell? ⟨b, 1, none⟩ = some (.int .i64 (off : Int)) := by rw [blk_cell hb]; rfl
  have c2 : w.cell? ⟨b, 2, none⟩ = some (.bool rd) := by rw [blk_cell hb]; rfl
  have f0 : w.frozen? ⟨b, 0, none⟩ = false := blk_free hb _
  have f1 : w.frozen? ⟨b, 1, none⟩ = false := blk_free hb _
  have f2 : w.frozen? ⟨b, 2, none⟩ = false := blk_free hb _
  have cx := cell_vb hc off ho
  have hm : 0 < l.length - off := by omega
  have HB := Lib.hid hB
  have Hb := Lib.hid hb
  have Hs := Lib.hid hs
  have hne' : Hid (g ≠ b) := hgb
  have hne2 : (((l.length - off : Nat) : Int) == 0) = false := by simp; omega
  clear hB hb hs hne h1 h3 hgb hc
  unfold maxLen at h2
  have hlen : (off : Int) < (l.length : Int) := by omega
  go_enter Try.func76, Try.ntmps76
  go_wp2_with (go_at_call 69; refine (BufLen_any b _ l off (l.length - off) rd _ HB.out (by omega)).mono ?_; rintro e w' ⟨rfl, k, rfl⟩)
  go_quiet (fail)
  go_wp2
  go_ret2
  refine ⟨rfl, ⟨?_, ?_, by simpa [Value.ownBlock] using hne'.out, by omega, hl⟩, ?_⟩
  · simpa using blk_set (w := (w.drewN (k + nq)).setCell ⟨b, 1, none⟩ (.int .i64 ((off : Int) + 1))) (blk_set (w := w.drewN (k + nq)) Hb.out 1 _) 2 (.bool true)
  · refine Hs.out.fr (bs := [b]) (((Fr.refl _ _).drewN _ |>.setCell (.inl (by simp)) _).setCell (.inl (by simp)) _) ?_
    intro g' hg'; simp [Value.ownBlock] at hg'; subst hg'; simpa using hne'.out
  · exact ((Fr.refl _ _).drewN _ |>.setCell (.inl (by simp)) _).setCell (.inl (by simp)) _

set_option maxRecDepth 100000 in
set_option maxHeartbeats 1000000 in
/-- ReadByte at the end. -/
theorem BufReadByte_end (b : Nat) (v : Value) (l : List UInt8) (rd : Bool) (w : World) (h : BufR w b v l l.length rd) :
    Calls Try.prog 76 #[.pointer (some ⟨b, 0, none⟩)] w fun e w' =>
      (∃ x, e = .returned (.tuple #[.int .u8 0, .iface 184 x])) ∧ BufR w' b v l l.length false ∧ Fr [b] w w' := by
  have hB := h
  obtain ⟨hb, hs, hne, -, hl⟩ := h
  have c2 : w.cell? ⟨b, 2, none⟩ = some (.bool rd) := by rw [blk_cell hb]; rfl
  have f2 : w.frozen? ⟨b, 2, none⟩ = false := blk_free hb _
  have HB := Lib.hid hB
  have Hb := Lib.hid hb
  have Hs := Lib.hid hs
  have hne' := Lib.hid hne
  clear hB hb hs hne
  go_enter Try.func76, Try.ntmps76
  go_wp2_with (go_at_call 69; refine (BufLen_any b _ l l.length 0 rd _ HB.out (by omega)).mono ?_; rintro e w' ⟨rfl, k, rfl⟩)
  go_ret2
  refine ⟨⟨_, rfl⟩, ⟨?_, ?_, hne'.out, Nat.le_refl _, hl⟩, ?_⟩
  · simpa using blk_set (w := w.drewN k) Hb.out 2 (.bool false)
  · refine Hs.out.fr (bs := [b]) ((Fr.refl _ _).drewN _ |>.setCell (.inl (by simp)) _) ?_
    intro g hg; simp; rintro rfl; exact hne'.out hg
  · exact (Fr.refl _ _).drewN _ |>.setCell (.inl (by simp)) _

/-- A buffer that has just been made. -/
theorem BufR_new {w : World} {v : Value} {l : List UInt8} (h : Sl w v (vbs l)) (hlt : ∀ g, v.ownBlock = some g → g < w.heap.size) (hl : l.length ≤ 1099511627776) : BufR (w.alloc (.cells #[v, .int .i64 0, .bool false] 79 (0, 0))) w.heap.size v l 0 false :=
  ⟨blk_new _ _, h.fr ((Fr.refl [] w).alloc _) (by simp), (fun hg => by have := hlt _ hg; omega), Nat.zero_le _, hl⟩

/-! ### a buffer that is written -/
/-- Block b holds a buffer that was written with l and not read. -/
def BufW (base : Nat) (w : World) (b : Nat) (v : Value) (l : List UInt8) (rd : Bool) : Prop :=
  w.heap[b]? = some (.cells #[v, .int .i64 0, .bool rd] 79 (0, 0)) ∧ w.ownsRow base 5 1 v l.length (vbs l) ∧ v.ownBlock ≠ some b

theorem sliceB : SliceT Try.prog 23 5 (.int .u8 0) 1 1 := ⟨Try.underlying23, by kernel_rfl, rfl, by decide⟩

set_option maxRecDepth 100000 in
set_option maxHeartbeats 1000000 in
theorem BufWriteByte_any (base b : Nat) (v : Value) (l : List UInt8) (rd : Bool) (x : UInt8) (w : World) (h : BufW base w b v l rd) (hl : l.length ≤ 1099511627776) (hbase : base ≤ w.heap.size) :
    Calls Try.prog 147 #[.pointer (some ⟨b, 0, none⟩), vb x] w fun e w' =>
      e = .returned .nilIface ∧ ∃ v', BufW base w' b v' (l ++ [x]) false ∧ Fr (b :: v.ownBlock.toList) w w' ∧ (∀ g, v'.ownBlock = some g → v.ownBlock = some g ∨ w.heap.size ≤ g) := by
  obtain ⟨hb, hown, hne⟩ := h
  have c0 : w.cell? ⟨b, 0, none⟩ = some v := by rw [blk_cell hb]; rfl
  have c2 : w.cell? ⟨b, 2, none⟩ = some (.bool rd) := by rw [blk_cell hb]; rfl
  have f0 : w.frozen? ⟨b, 0, none⟩ = false := blk_free hb _
  have f2 : w.frozen? ⟨b, 2, none⟩ = false := blk_free hb _
  have hblt := lt_heap hb
  have Hb := Lib.hid hb
  have Hown := Lib.hid hown
  have hne' := Lib.hid hne
  clear hb hown hne
  have hown2 : ((w.setCell ⟨b, 2, none⟩ (.bool false)).alloc (.cells #[vb x] 5)).ownsRow base 5 1 v l.length (vbs l) :=
    own_fr Hown.out (((Fr.refl [b] w).setCell (.inl (by simp)) _).alloc _) (by intro g hg; simp; rintro rfl; exact hne'.out hg)
  have Hown2 := Lib.hid hown2
  clear hown2
  go_enter Try.func147, Try.ntmps147
  go_wp2_with (at_builtin; refine wpList_app sliceB _ rfl _ _ rfl base v l.length (vbs l) rfl Hown2.out (some ⟨w.heap.size, 0, none⟩) 1 1 [vb x] rfl rfl (fun h => by cases h) (news_one (by simp) _ _) (vbs_one [x]) (by omega) (by decide) (by simp; omega) ?_)
  intro a' c' w1 ho1 hf1 hg1
  have Ho1 := Lib.hid ho1
  have Hf1 := Lib.hid hf1
  have Hg1 := Lib.hid hg1
  have hn1 : b ∉ v.ownBlock.toList := by intro h; apply hne'.out; simpa using h
  have hb1 : w1.heap[b]? = some (.cells #[v, .int .i64 0, .bool false] 79 (0, 0)) :=
    hf1.get (blk_alloc (by simpa using blk_set Hb.out 2 (.bool false))) hn1
  have d0 : w1.cell? ⟨b, 0, none⟩ = some v := by rw [blk_cell hb1]; rfl
  have e0 : w1.frozen? ⟨b, 0, none⟩ = false := blk_free hb1 _
  have Hb1 := Lib.hid hb1
  clear ho1 hf1 hg1 c0 c2 f0 f2 hb1
  go_wp2
  go_ret
  have hvb : (Value.slice a' (l.length + 1) c').ownBlock ≠ some b := by
    intro h
    rcases Hg1.out b h with h' | h'
    · exact hne'.out h'
    · (try simp at h'); omega
  refine ⟨rfl, .slice a' (l.length + 1) c', ⟨by simpa using blk_set Hb1.out 0 (.slice a' (l.length + 1) c'), ?_, hvb⟩, ?_, ?_⟩
  · have := own_fr Ho1.out ((Fr.refl [b] w1).setCell (p := ⟨b, 0, none⟩) (.inl (by simp)) (.slice a' (l.length + 1) c')) (by intro g hg; simp; rintro rfl; exact hvb hg)
    simpa using this
  · refine Fr.setCell (Fr.trans (l := b :: v.ownBlock.toList) (((Fr.refl _ w).setCell (p := ⟨b, 2, none⟩) (.inl (by simp)) _).alloc _) Hf1.out ?_) (.inl (by simp)) _
    intro i hi _; simp at hi ⊢; exact .inr hi
  · intro g hg
    rcases Hg1.out g hg with h' | h'
    · exact .inl h'
    · (try simp at h'); right; omega

set_option maxRecDepth 100000 in
set_option maxHeartbeats 1000000 in
theorem BufBytes_w (base b : Nat) (v : Value) (l : List UInt8) (rd : Bool) (w : World) (h : BufW base w b v l rd) (hp : 0 < l.length) :
    Calls Try.prog 37 #[.pointer (some ⟨b, 0, none⟩)] w fun e w' => e = .returned v ∧ ∃ k, w' = w.drewN k := by
  obtain ⟨hb, hown, hne⟩ := h
  rcases hown.2 with ⟨_, h0⟩ | ⟨g, cap, cur, rfl, hbg, hhb, hnc, hcm, hcs, htake⟩
  · omega
  have c0 : w.cell? ⟨b, 0, none⟩ = some (.slice (some ⟨g, 0, none⟩) l.length cap) := by rw [blk_cell hb]; rfl
  have c1 : w.cell? ⟨b, 1, none⟩ = some (.int .i64 0) := by rw [blk_cell hb]; rfl
  unfold maxLen at hcm
  clear hb hown hne hhb hcs htake
  generalize l.length = n at *
  go_enter Try.func37, Try.ntmps37
  go_wp2_with fail
  go_quiet (fail)
  go_wp2
  go_ret
  exact ⟨rfl, _, rfl⟩
end Go.Proofs.Ytahohmdfllgedaa
