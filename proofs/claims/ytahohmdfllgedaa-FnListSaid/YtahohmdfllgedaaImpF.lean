/- The frames' beginnings and ends. -/
import Derived.Test.YtahohmdfllgedaaParse
namespace Go.Proofs.Ytahohmdfllgedaa
open Go.RowKit

set_option maxHeartbeats 1000000 in
theorem fdeBegin_any (w : World) (v : Value) (fb : Nat) (o : Value) (c : LCommon) (x : LFrame) (h : FdeAt w v fb o c x) : Calls Try.prog 46 #[ptrV fb] w fun e w' => e = .returned (.int .u64 (x.start : Int)) ∧ w = w' := by
  obtain ⟨L, cb, a, n, k, z, hb, -⟩ := h
  have c3 : w.cell? ⟨fb, 3, none⟩ = some (.int .u64 (x.start : Int)) := by rw [blk_cell hb]; rfl
  clear hb
  go_enter Try.func46, Try.ntmps46
  go_wp2_with fail
  go_ret
  exact ⟨rfl, rfl⟩
set_option maxHeartbeats 1000000 in
theorem fdeEnd_any (w : World) (v : Value) (fb : Nat) (o : Value) (c : LCommon) (x : LFrame) (h : FdeAt w v fb o c x) (h1 : x.start ≤ 1099511627776) (h2 : x.size ≤ 1048576) :
    Calls Try.prog 47 #[ptrV fb] w fun e w' => e = .returned (.int .u64 ((x.start + x.size : Nat) : Int)) ∧ ∃ k, w' = w.drewN k := by
  obtain ⟨L, cb, a, n, k, z, hb, -⟩ := h
  have c3 : w.cell? ⟨fb, 3, none⟩ = some (.int .u64 (x.start : Int)) := by rw [blk_cell hb]; rfl
  have c4 : w.cell? ⟨fb, 4, none⟩ = some (.int .u64 (x.size : Int)) := by rw [blk_cell hb]; rfl
  have e : IntKind.u64.wrap ((x.start : Int) + (x.size : Int)) = ((x.start + x.size : Nat) : Int) := by simp [IntKind.wrap, IntKind.signed, IntKind.bits]; omega
  obtain ⟨y, hy⟩ : ∃ y, x.start + x.size = y := ⟨_, rfl⟩
  rw [hy] at e ⊢
  clear hb hy
  go_enter Try.func47, Try.ntmps47
  go_wp2_with fail
  go_quiet (fail)
  go_wp2
  go_ret
  exact ⟨rfl, _, rfl⟩
theorem FdeAt.idle {w w' : World} {v : Value} {fb : Nat} {o : Value} {c : LCommon} {f : LFrame} (h : FdeAt w v fb o c f) (fr : Fr [] w w') : FdeAt w' v fb o c f := h.fr fr (by simp) (by simp)

theorem sliceU : SliceT Try.prog 37 22 (.int .u64 0) 1 8 := ⟨Try.underlying37, by kernel_rfl, rfl, by decide⟩

set_option maxHeartbeats 1000000 in
theorem iFrames1_idle (p q r : Addr) (w : World) :
    CallsD Try.prog 44 #[.pointer (some p), .pointer (some q), .pointer (some r)] .returning w fun e u' w' => e = .returned (.tuple #[]) ∧ u' = .returning ∧ w' = w := by
  refine callsD_of_wpS Try.func44 rfl fun c₀ cs hu => ?_
  apply wpS_seq
  apply wpS_region
  simp [wpOpsS, go_sem, recoverD, hu, Try.ntmps44, Exit.thenS]
  refine wpS_cond (t := false) (by simp [Act.eval, Array.replicate]) ?_
  simp only [Bool.false_eq_true, if_false]
  refine wpS_of_wp (wp_skip ?_)
  cases c₀
  simp_all [bodyPostS, results, Try.results44]

theorem setCell_same {w : World} {b : Nat} {u : Value} {t : TypeId} (h : w.heap[b]? = some (.cells #[u] t (0, 0))) : w.setCell ⟨b, 0, none⟩ u = w := by
  have e : (w.setCell ⟨b, 0, none⟩ u).heap = w.heap := by
    apply Array.ext_getElem?
    intro j
    by_cases hj : j = b
    · subst hj; rw [blk_set h 0 u, h]; rfl
    · rw [Below.heap_setCell _ _ _ _ hj]
  have e2 : w.setCell ⟨b, 0, none⟩ u = { w with heap := (w.setCell ⟨b, 0, none⟩ u).heap } := rfl
  rw [e2, e]
def bvals (X : List LFrame) : List Value := X.map fun x => .int .u64 (x.start : Int)
def evals (X : List LFrame) : List Value := X.map fun x => .int .u64 ((x.start + x.size : Nat) : Int)
def Dis (v v' : Value) : Prop := ∀ g, v.ownBlock = some g → v'.ownBlock ≠ some g

/-- The loop over the frames. -/
structure FL (w1 wr : World) (X : List LFrame) (n m i : Nat) (ab ae : Option Addr) (cb ce : Nat) : Prop where
  bn : wr.heap[n]? = some (.cells #[.slice ab i cb] 37 (0, 0))
  bm : wr.heap[m]? = some (.cells #[.slice ae i ce] 37 (0, 0))
  ob : wr.ownsRow w1.heap.size 22 1 (.slice ab i cb) i (bvals (X.take i))
  oe : wr.ownsRow w1.heap.size 22 1 (.slice ae i ce) i (evals (X.take i))
  ds : Dis (.slice ab i cb) (.slice ae i ce)
  fr : Fr [n, m] w1 wr

theorem fdes_get {w1 wr : World} {v : Value} {n m : Nat} {c : LCommon} {x : LFrame} {fb : Nat} {o : Value} (h : FdeAt w1 v fb o c x) (f : Fr [n, m] w1 wr) {c1 c2 : Array Value} (hn : w1.heap[n]? = some (.cells c1 37 (0, 0))) (hm : w1.heap[m]? = some (.cells c2 37 (0, 0)))
    (hv : ∀ g, v.ownBlock = some g → g ∉ [n, m]) : FdeAt wr v fb o c x := by
  obtain ⟨csf, hcsf⟩ := h.blk
  refine h.fr f (fun k cs t hk ht => ?_) hv
  rcases ht with rfl | rfl
  · have e1 := blk_ne hk hn (by decide); have e2 := blk_ne hk hm (by decide); simp; exact ⟨e1, e2⟩
  · have e1 := blk_ne hcsf hn (by decide); have e2 := blk_ne hcsf hm (by decide); simp; exact ⟨e1, e2⟩
theorem FL.own_n {w1 wr : World} {X : List LFrame} {n m i : Nat} {ab ae : Option Addr} {cb ce : Nat} (h : FL w1 wr X n m i ab ae cb ce) {k : Nat} (hk : k < w1.heap.size) : k ∉ (Value.slice ab i cb).ownBlock.toList ∧ k ∉ (Value.slice ae i ce).ownBlock.toList :=
  ⟨fun hm => by have := own_ge h.ob (by simpa using hm); omega, fun hm => by have := own_ge h.oe (by simpa using hm); omega⟩
/-- Behind both appends and both stores. -/
theorem FL.done {w1 wo wA wB : World} {X : List LFrame} {n m i : Nat} {ab ae a5 a6 : Option Addr} {cb ce c5 c6 : Nat} (h : FL w1 wo X n m i ab ae cb ce) (hn : n < w1.heap.size) (hm : m < w1.heap.size) (hnm : n ≠ m)
    (fA : Fr (Value.slice ab i cb).ownBlock.toList wo wA) (gA : ∀ g, (Value.slice a5 (i + 1) c5).ownBlock = some g → (Value.slice ab i cb).ownBlock = some g ∨ wo.heap.size ≤ g) (oA : wA.ownsRow w1.heap.size 22 1 (.slice a5 (i + 1) c5) (i + 1) (bvals (X.take (i + 1))))
    (fB : Fr (Value.slice ae i ce).ownBlock.toList wA wB) (gB : ∀ g, (Value.slice a6 (i + 1) c6).ownBlock = some g → (Value.slice ae i ce).ownBlock = some g ∨ wA.heap.size ≤ g) (oB : wB.ownsRow w1.heap.size 22 1 (.slice a6 (i + 1) c6) (i + 1) (evals (X.take (i + 1)))) :
    FL w1 ((wB.setCell ⟨n, 0, none⟩ (.slice a5 (i + 1) c5)).setCell ⟨m, 0, none⟩ (.slice a6 (i + 1) c6)) X n m (i + 1) a5 a6 c5 c6 ∧
    FL w1 ((wB.setCell ⟨m, 0, none⟩ (.slice a6 (i + 1) c6)).setCell ⟨n, 0, none⟩ (.slice a5 (i + 1) c5)) X n m (i + 1) a5 a6 c5 c6 := by
  have hnB : wB.heap[n]? = some (.cells #[.slice ab i cb] 37 (0, 0)) := fB.get (fA.get h.bn (h.own_n hn).1) (h.own_n hn).2
  have hmB : wB.heap[m]? = some (.cells #[.slice ae i ce] 37 (0, 0)) := fB.get (fA.get h.bm (h.own_n hm).1) (h.own_n hm).2
  have hdis : ∀ g, (Value.slice a5 (i + 1) c5).ownBlock = some g → g ∉ (Value.slice ae i ce).ownBlock.toList := fun g hg hmem => by
    have hme : (Value.slice ae i ce).ownBlock = some g := by simpa using hmem
    rcases gA g hg with h1 | h1
    · exact h.ds g h1 hme
    · have := (h.oe.lt g hme).2; omega
  have oA' : wB.ownsRow w1.heap.size 22 1 (.slice a5 (i + 1) c5) (i + 1) (bvals (X.take (i + 1))) := own_fr oA fB hdis
  have dis' : Dis (.slice a5 (i + 1) c5) (.slice a6 (i + 1) c6) := fun g h1 h2 => by
    rcases gB g h2 with h3 | h3
    · exact hdis g h1 (by simpa using h3)
    · have := (oA.lt g h1).2; omega
  have hF : ∀ w', Fr [n, m] wB w' → Fr [n, m] w1 w' := fun w' f => by
    have h1 : Fr [n, m] w1 wA := h.fr.trans fA (fun k hk hlt => ((h.own_n hlt).1 hk).elim)
    have h2 : Fr [n, m] w1 wB := h1.trans fB (fun k hk hlt => ((h.own_n hlt).2 hk).elim)
    exact h2.trans f (fun k hk _ => hk)
  have hob : ∀ w', Fr [n, m] wB w' → w'.ownsRow w1.heap.size 22 1 (.slice a5 (i + 1) c5) (i + 1) (bvals (X.take (i + 1))) ∧ w'.ownsRow w1.heap.size 22 1 (.slice a6 (i + 1) c6) (i + 1) (evals (X.take (i + 1))) := fun w' f =>
    ⟨own_fr oA' f (fun g hg => by have := own_ge oA' hg; simp; omega), own_fr oB f (fun g hg => by have := own_ge oB hg; simp; omega)⟩
  have f1 : Fr [n, m] wB ((wB.setCell ⟨n, 0, none⟩ (.slice a5 (i + 1) c5)).setCell ⟨m, 0, none⟩ (.slice a6 (i + 1) c6)) := ((Fr.refl _ _).setCell (.inl (by simp)) _).setCell (.inl (by simp)) _
  have f2 : Fr [n, m] wB ((wB.setCell ⟨m, 0, none⟩ (.slice a6 (i + 1) c6)).setCell ⟨n, 0, none⟩ (.slice a5 (i + 1) c5)) := ((Fr.refl _ _).setCell (.inl (by simp)) _).setCell (.inl (by simp)) _
  exact ⟨⟨blk_set_other (one_setCell hnB) hnm, one_setCell (blk_set_other hmB hnm.symm), (hob _ f1).1, (hob _ f1).2, dis', hF _ f1⟩,
    ⟨one_setCell (blk_set_other hnB hnm), blk_set_other (one_setCell hmB) hnm.symm, (hob _ f2).1, (hob _ f2).2, dis', hF _ f2⟩⟩
end Go.Proofs.Ytahohmdfllgedaa
