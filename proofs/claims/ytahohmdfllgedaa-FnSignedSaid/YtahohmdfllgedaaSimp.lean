/- The thin package's calls on signed numbers of variable length. -/
import Derived.Test.YtahohmdfllgedaaSlebW
import Derived.Test.YtahohmdfllgedaaSlebD
namespace Go.Proofs.Ytahohmdfllgedaa
open Go.RowKit

/-! ### impl.DecodeSigned: what is deferred finds nothing to recover -/
set_option maxHeartbeats 1000000 in
theorem iDecS1_idle (p q r : Addr) (w : World) :
    CallsD Try.prog 38 #[.pointer (some p), .pointer (some q), .pointer (some r)] .returning w fun e u' w' => e = .returned (.tuple #[]) ∧ u' = .returning ∧ w' = w := by
  refine callsD_of_wpS Try.func38 rfl fun c₀ cs hu => ?_
  apply wpS_seq
  apply wpS_region
  simp [wpOpsS, go_sem, recoverD, hu, Try.ntmps38, Exit.thenS]
  refine wpS_cond (t := false) (by simp [Act.eval, Array.replicate]) ?_
  simp only [Bool.false_eq_true, if_false]
  refine wpS_of_wp (wp_skip ?_)
  cases c₀
  simp_all [bodyPostS, results, Try.results38]

set_option maxRecDepth 100000 in
set_option maxHeartbeats 1000000 in
theorem iDecS_any (v : Value) (l p rest : List UInt8) (w : World) (h : Sl w v (vbs l)) (hl : l.length ≤ 1099511627776) (hp : l = p ++ rest) (he : Ended p) (h10 : p.length ≤ 10) :
    Calls Try.prog 17 #[v] w fun e w' => e = .returned (.tuple #[.int .i64 (wrap64 (sval p)), .int .i64 ((p.length : Nat) : Int), .bool true]) ∧ Fr [] w w' := by
  have hmf : ∀ (fn : Fn) (first cap : Array Value) (w : World), (Instr.makeFunc fn first cap).run Try.prog w = .ok (.func fn first cap) w := fun _ _ _ _ => rfl
  have H := Lib.hid h
  have Hl := Lib.hid hl
  have Hp := Lib.hid hp
  have He := Lib.hid he
  clear h hl hp he
  have hf0 : Fr [] w (((w.alloc (.cells #[.int .i64 0] 2)).alloc (.cells #[.int .i64 0] 3)).alloc (.cells #[.bool false] 4)) := (((Fr.refl _ _).alloc _).alloc _).alloc _
  have b0 : (((w.alloc (.cells #[.int .i64 0] 2)).alloc (.cells #[.int .i64 0] 3)).alloc (.cells #[.bool false] 4)).heap[w.heap.size]? = some (.cells #[.int .i64 0] 2 (0, 0)) := blk_alloc (blk_alloc (blk_new _ _))
  have b1 : (((w.alloc (.cells #[.int .i64 0] 2)).alloc (.cells #[.int .i64 0] 3)).alloc (.cells #[.bool false] 4)).heap[w.heap.size + 1]? = some (.cells #[.int .i64 0] 3 (0, 0)) := by
    have := blk_new (w.alloc (.cells #[.int .i64 0] 2)) (.cells #[.int .i64 0] 3)
    simp only [World.size_alloc] at this
    exact blk_alloc this
  have b2 : (((w.alloc (.cells #[.int .i64 0] 2)).alloc (.cells #[.int .i64 0] 3)).alloc (.cells #[.bool false] 4)).heap[w.heap.size + 1 + 1]? = some (.cells #[.bool false] 4 (0, 0)) := by
    have := blk_new ((w.alloc (.cells #[.int .i64 0] 2)).alloc (.cells #[.int .i64 0] 3)) (.cells #[.bool false] 4)
    simpa only [World.size_alloc] using this
  have hs0 : (((w.alloc (.cells #[.int .i64 0] 2)).alloc (.cells #[.int .i64 0] 3)).alloc (.cells #[.bool false] 4)).heap.size = w.heap.size + 3 := by simp
  generalize hw0 : ((w.alloc (.cells #[.int .i64 0] 2)).alloc (.cells #[.int .i64 0] 3)).alloc (.cells #[.bool false] 4) = w0 at *
  have Hw0 := Lib.hid hw0
  have F0 := Lib.hid hf0
  have B0 := Lib.hid b0
  have B1 := Lib.hid b1
  have B2 := Lib.hid b2
  have S0 := Lib.hid hs0
  clear hw0 hf0 b0 b1 b2 hs0
  go_enter_defers Try.func17, Try.ntmps17
  go_wp2_with (go_at_call 35; go_must (rw [Hw0.out]; refine (Clone_any v l _ (H.out.fr F0.out (by simp)) Hl.out).mono ?_))
  rintro e w1 ⟨a, c, rfl, ho1, hf1⟩
  have Ho1 := Lib.hid ho1
  have F1 := Lib.hid hf1
  clear ho1 hf1
  go_wp2_with (go_at_call 34; go_must (refine (NewBuffer_any a l.length c _).mono ?_; rintro e w2 ⟨rfl, rfl⟩))
  have hbuf : BufR (w1.alloc (.cells #[.slice a l.length c, .int .i64 0, .bool false] 79 (0, 0))) w1.heap.size (.slice a l.length c) l 0 false := BufR_new (own_sl Ho1.out) (fun g hg => (Ho1.out.lt g hg).2) Hl.out
  have Hbuf := Lib.hid hbuf
  clear hbuf
  go_wp2_with (go_at_call 39; go_must (refine (lDecS_any _ _ l 0 false _ Hbuf.out p rest (by simpa using Hp.out) He.out h10).mono ?_))
  rintro e w2 ⟨rfl, hbuf2, hf2⟩
  have F2 : Hid (Fr [] w0 w2) := (F1.out.alloc _).trans hf2 (by intro i hi hlt; simp at hi; have := F1.out.size; omega)
  have d0 := F2.out.get B0.out (by simp)
  have d1 := F2.out.get B1.out (by simp)
  have d2 := F2.out.get B2.out (by simp)
  clear hbuf2 hf2
  have D0 := Lib.hid d0
  have D1 := Lib.hid d1
  have D2 := Lib.hid d2
  have c0 := cell_of_one d0
  have c1 := cell_of_one d1
  have c2 := cell_of_one d2
  have f0 := free_of_one d0
  have f1 := free_of_one d1
  have f2 := free_of_one d2
  clear d0 d1 d2
  generalize hz : wrap64 (sval p) = z
  generalize hn : w.heap.size = n at *
  have Hn := Lib.hid hn
  have Hz := Lib.hid hz
  clear hn hz
  go_wp2
  refine leaves_cons (f := 38) (args := #[.pointer (some ⟨n, 0, none⟩), .pointer (some ⟨n + 1, 0, none⟩), .pointer (some ⟨n + 1 + 1, 0, none⟩)]) (by simp) (by simp [go_sem]) ?_
  refine (iDecS1_idle ⟨n, 0, none⟩ ⟨n + 1, 0, none⟩ ⟨n + 1 + 1, 0, none⟩ _).mono ?_
  rintro e u' w'' ⟨rfl, rfl, rfl⟩
  have g0 : Fr [] w ((((w2.setCell ⟨n, 0, none⟩ (.int .i64 z)).setCell ⟨n, 0, none⟩ (.int .i64 z)).setCell ⟨n + 1, 0, none⟩ (.int .i64 p.length)).setCell ⟨n + 1 + 1, 0, none⟩ (.bool true)) :=
    ((((F0.out.then F2.out).setCell (.inr (by simp [Hn.out])) _).setCell (.inr (by simp [Hn.out])) _).setCell (.inr (by simp [Hn.out])) _).setCell (.inr (by simp [Hn.out]; omega)) _
  have e0 := cell_of_one (blk_set_other (i := 0) (u := .bool true) (g := n + 1 + 1) (blk_set_other (i := 0) (u := .int .i64 p.length) (g := n + 1) (one_setCell (u := .int .i64 z) (one_setCell (u := .int .i64 z) D0.out)) (by omega)) (by omega))
  have e1 := cell_of_one (blk_set_other (i := 0) (u := .bool true) (g := n + 1 + 1) (one_setCell (u := .int .i64 p.length) (blk_set_other (i := 0) (u := .int .i64 z) (g := n) (blk_set_other (i := 0) (u := .int .i64 z) (g := n) D1.out (by omega)) (by omega))) (by omega))
  have e2 := cell_of_one (one_setCell (u := .bool true) (blk_set_other (i := 0) (u := .int .i64 p.length) (g := n + 1) (blk_set_other (i := 0) (u := .int .i64 z) (g := n) (blk_set_other (i := 0) (u := .int .i64 z) (g := n) D2.out (by omega)) (by omega)) (by omega)))
  generalize ((((w2.setCell ⟨n, 0, none⟩ (.int .i64 z)).setCell ⟨n, 0, none⟩ (.int .i64 z)).setCell ⟨n + 1, 0, none⟩ (.int .i64 p.length)).setCell ⟨n + 1 + 1, 0, none⟩ (.bool true)) = wf at *
  refine ⟨.tuple #[.int .i64 z, .int .i64 p.length, .bool true], by simp [results, Try.results17, go_sem, e0, e1, e2], by rw [Hz.out], g0⟩

/-! ### impl.EncodeSigned -/
set_option maxRecDepth 100000 in
set_option maxHeartbeats 1000000 in
theorem iEncS_any (n : Int) (h1 : -9223372036854775808 ≤ n) (h2 : n ≤ 9223372036854775807) (w : World) : Calls Try.prog 18 #[.int .i64 n] w (Made (sleb n) w) := by
  have hb : BufW w.heap.size (w.alloc (.cells #[.slice none 0 0, .int .i64 0, .bool false] 79 (0, 0))) w.heap.size (.slice none 0 0) [] false :=
    ⟨blk_new _ _, World.ownsRow_nil _ _ _ _, by simp [Value.ownBlock]⟩
  have Hb := Lib.hid hb
  have Hn := Lib.hid (And.intro h1 h2)
  clear hb h1 h2
  go_enter Try.func18, Try.ntmps18
  go_wp2_with (go_at_call 40; go_must (refine (lEncS_any n Hn.out.1 Hn.out.2 w.heap.size _ _ [] false _ Hb.out (by simp) (by simp)).mono ?_))
  rintro e w1 ⟨rfl, v', hb1, hf1⟩
  have Hb1 := Lib.hid hb1
  have Hf1 := Lib.hid hf1
  clear hb1 hf1
  go_wp2_with (go_at_call 37; go_must (refine (BufBytes_w w.heap.size _ v' _ _ _ Hb1.out (by simpa using sleb_pos n)).mono ?_))
  rintro e w2 ⟨rfl, k, rfl⟩
  go_wp2
  go_ret
  obtain ⟨a, c, hv⟩ := own_slice Hb1.out.2.1
  refine ⟨a, c, ?_, ?_, ?_⟩
  · have : v' = .slice a (sleb n).length c := by simpa using hv
    rw [← this]; rfl
  · have h1 := Hb1.out.2.1
    rw [hv] at h1
    exact h1
  · exact (((Fr.refl [] w).alloc _).trans Hf1.out (fun i hi hlt => by simp [Value.ownBlock] at hi; omega)).drewN _


end Go.Proofs.Ytahohmdfllgedaa
