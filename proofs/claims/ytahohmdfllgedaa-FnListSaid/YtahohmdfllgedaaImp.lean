/- slices.Clone of bytes, bytes.Equal, and the thin package's calls on numbers of variable length (unsigned). -/
import Derived.Test.YtahohmdfllgedaaLebW
import Derived.Test.YtahohmdfllgedaaLebD
import Derived.Lib.SliceRun
namespace Go.Proofs.Ytahohmdfllgedaa
open Go.RowKit

set_option maxRecDepth 100000 in
set_option maxHeartbeats 1000000 in
theorem Clone_any (v : Value) (l : List UInt8) (w : World) (h : Sl w v (vbs l)) (hl : l.length ≤ 1099511627776) :
    Calls Try.prog 35 #[v] w (Made l w) := by
  have qT : ∀ (w : World) (a : Option Addr) (n c n' c' : Nat), (binOp .eql 23 (.slice a n c) (.slice none n' c')).run Try.prog w = .ok (.bool a.isNone) w := fun w a n c n' c' => Lib.run_eql_slice_nil w _ _ a n c n' c' Try.underlying23
  obtain ⟨ao, c, rfl, h1, h2⟩ := sl_news h
  simp only [List.length_map] at h1 ⊢
  cases ao with
  | none =>
    obtain ⟨h1a, rfl⟩ := h1 rfl
    have : l = [] := List.eq_nil_of_length_eq_zero h1a
    subst this
    go_enter Try.func35, Try.ntmps35
    go_wp2_with fail
    go_ret
    exact ⟨none, 0, rfl, World.ownsRow_nil _ _ _ _, Fr.refl _ _⟩
  | some ad =>
    have h3 : ∀ j u, (vbs l)[j]? = some u → (w.alloc (.cells #[] 5)).cell? (ad.add j) = some u :=
      fun j u hu => ((Fr.refl [] w).alloc _).cell (h2 ad rfl j u hu) (by simp)
    have H3 := Lib.hid h3
    clear h2 h3 h1
    go_enter Try.func35, Try.ntmps35
    go_wp2_with (at_builtin; go_must (refine wpList_app sliceB _ rfl _ _ rfl w.heap.size _ 0 [] rfl (World.ownsRow_made w #[] 0 (Nat.le_refl _) (by simp) rfl) (some ad) l.length c (vbs l) rfl (by simp) (fun h => by cases h) ?_ (vbs_one l) (by omega) (by decide) (by simp) ?_))
    · intro ad' had; cases had; exact H3.out
    intro a' c' w1 ho1 hf1 hg1
    have Ho1 := Lib.hid ho1
    have Hf1 := Lib.hid hf1
    clear ho1 hf1 hg1
    go_wp2
    go_ret
    refine ⟨a', c', by simp, by simpa using Ho1.out, ?_⟩
    exact ((Fr.refl [] w).alloc _).trans Hf1.out (fun i hi hlt => by simp [Value.ownBlock] at hi; omega)
theorem conv_sl {v : Value} {l : List UInt8} {w : World} (h : Sl w v (vbs l)) : (convert 23 9 v).run Try.prog w = .ok (.string ⟨l.toArray⟩) w := by
  rcases h with ⟨rfl, hl⟩ | ⟨x, c, rfl, h1, h2, h3⟩
  · have : l = [] := by simpa using hl
    subst this
    exact run_convert_bytes_nil w _ _ Try.underlying23 Try.underlying5 0 0 _ Try.underlying9
  · have := run_convert_bytes_back (P := Try.prog) w 23 9 5 x c l Try.underlying23 Try.underlying5 Try.underlying9
      (fun j hj => h3 j _ (by simp [hj]))
    simpa using this

set_option maxRecDepth 100000 in
set_option maxHeartbeats 1000000 in
theorem bEqual_any (v u : Value) (l m : List UInt8) (w : World) (h1 : Sl w v (vbs l)) (h2 : Sl w u (vbs m)) :
    Calls Try.prog 14 #[v, u] w fun e w' => e = .returned (.bool (l == m)) ∧ w = w' := by
  have k1 := conv_sl h1
  have k2 := conv_sl h2
  clear h1 h2
  go_enter Try.func14, Try.ntmps14
  go_wp2_with fail
  go_ret
  exact ⟨rfl, rfl⟩

/-! ### impl.DecodeUnsigned: what is deferred finds nothing to recover -/
set_option maxHeartbeats 1000000 in
theorem iDecU1_idle (p q r : Addr) (w : World) :
    CallsD Try.prog 32 #[.pointer (some p), .pointer (some q), .pointer (some r)] .returning w fun e u' w' => e = .returned (.tuple #[]) ∧ u' = .returning ∧ w' = w := by
  refine callsD_of_wpS Try.func32 rfl fun c₀ cs hu => ?_
  apply wpS_seq
  apply wpS_region
  simp [wpOpsS, go_sem, recoverD, hu, Try.ntmps32, Exit.thenS]
  refine wpS_cond (t := false) (by simp [Act.eval, Array.replicate]) ?_
  simp only [Bool.false_eq_true, if_false]
  refine wpS_of_wp (wp_skip ?_)
  cases c₀
  simp_all [bodyPostS, results, Try.results32]

set_option maxRecDepth 100000 in
set_option maxHeartbeats 1000000 in
theorem iDecU_any (v : Value) (l p rest : List UInt8) (w : World) (h : Sl w v (vbs l)) (hl : l.length ≤ 1099511627776) (hp : l = p ++ rest) (he : Ended p) (h10 : p.length ≤ 10) :
    Calls Try.prog 13 #[v] w fun e w' => e = .returned (.tuple #[.int .u64 ((uval p % M64 : Nat) : Int), .int .i64 ((p.length : Nat) : Int), .bool true]) ∧ Fr [] w w' := by
  have hmf : ∀ (fn : Fn) (first cap : Array Value) (w : World), (Instr.makeFunc fn first cap).run Try.prog w = .ok (.func fn first cap) w := fun _ _ _ _ => rfl
  have H := Lib.hid h
  have Hl := Lib.hid hl
  have Hp := Lib.hid hp
  have He := Lib.hid he
  clear h hl hp he
  have hf0 : Fr [] w (((w.alloc (.cells #[.int .u64 0] 22)).alloc (.cells #[.int .i64 0] 3)).alloc (.cells #[.bool false] 4)) := (((Fr.refl _ _).alloc _).alloc _).alloc _
  have b0 : (((w.alloc (.cells #[.int .u64 0] 22)).alloc (.cells #[.int .i64 0] 3)).alloc (.cells #[.bool false] 4)).heap[w.heap.size]? = some (.cells #[.int .u64 0] 22 (0, 0)) := blk_alloc (blk_alloc (blk_new _ _))
  have b1 : (((w.alloc (.cells #[.int .u64 0] 22)).alloc (.cells #[.int .i64 0] 3)).alloc (.cells #[.bool false] 4)).heap[w.heap.size + 1]? = some (.cells #[.int .i64 0] 3 (0, 0)) := by
    have := blk_new (w.alloc (.cells #[.int .u64 0] 22)) (.cells #[.int .i64 0] 3)
    simp only [World.size_alloc] at this
    exact blk_alloc this
  have b2 : (((w.alloc (.cells #[.int .u64 0] 22)).alloc (.cells #[.int .i64 0] 3)).alloc (.cells #[.bool false] 4)).heap[w.heap.size + 1 + 1]? = some (.cells #[.bool false] 4 (0, 0)) := by
    have := blk_new ((w.alloc (.cells #[.int .u64 0] 22)).alloc (.cells #[.int .i64 0] 3)) (.cells #[.bool false] 4)
    simpa only [World.size_alloc] using this
  have hs0 : (((w.alloc (.cells #[.int .u64 0] 22)).alloc (.cells #[.int .i64 0] 3)).alloc (.cells #[.bool false] 4)).heap.size = w.heap.size + 3 := by simp
  generalize hw0 : ((w.alloc (.cells #[.int .u64 0] 22)).alloc (.cells #[.int .i64 0] 3)).alloc (.cells #[.bool false] 4) = w0 at *
  have Hw0 := Lib.hid hw0
  have F0 := Lib.hid hf0
  have B0 := Lib.hid b0
  have B1 := Lib.hid b1
  have B2 := Lib.hid b2
  have S0 := Lib.hid hs0
  clear hw0 hf0 b0 b1 b2 hs0
  go_enter_defers Try.func13, Try.ntmps13
  go_wp2_with (go_at_call 35; go_must (rw [Hw0.out]; refine (Clone_any v l _ (H.out.fr F0.out (by simp)) Hl.out).mono ?_))
  rintro e w1 ⟨a, c, rfl, ho1, hf1⟩
  have Ho1 := Lib.hid ho1
  have F1 := Lib.hid hf1
  clear ho1 hf1
  go_wp2_with (go_at_call 34; go_must (refine (NewBuffer_any a l.length c _).mono ?_; rintro e w2 ⟨rfl, rfl⟩))
  have hbuf : BufR (w1.alloc (.cells #[.slice a l.length c, .int .i64 0, .bool false] 79 (0, 0))) w1.heap.size (.slice a l.length c) l 0 false := BufR_new (own_sl Ho1.out) (fun g hg => (Ho1.out.lt g hg).2) Hl.out
  have Hbuf := Lib.hid hbuf
  clear hbuf
  go_wp2_with (go_at_call 33; go_must (refine (lDecU_any _ _ l 0 false _ Hbuf.out p rest (by simpa using Hp.out) He.out h10).mono ?_))
  rintro e w2 ⟨rfl, hbuf2, hf2⟩
  have F2 : Hid (Fr [] w0 w2) := (F1.out.alloc _).trans hf2 (by intro i hi hlt; simp at hi; have := F1.out.size; omega)
  have d0 := F2.out.get B0.out (by simp)
  have d1 := F2.out.get B1.out (by simp)
  have d2 := F2.out.get B2.out (by simp)
  clear hbuf2 hf2
  have D0 := Lib.hid d0
  have D1 := Lib.hid d1
  have D2 := Lib.hid d2
  have c0 := cell_of_one d0
  have c1 := cell_of_one d1
  have c2 := cell_of_one d2
  have f0 := free_of_one d0
  have f1 := free_of_one d1
  have f2 := free_of_one d2
  clear d0 d1 d2
  generalize hz : uval p % M64 = z
  generalize hn : w.heap.size = n at *
  have Hn := Lib.hid hn
  have Hz := Lib.hid hz
  clear hn hz
  go_wp2
  refine leaves_cons (f := 32) (args := #[.pointer (some ⟨n, 0, none⟩), .pointer (some ⟨n + 1, 0, none⟩), .pointer (some ⟨n + 1 + 1, 0, none⟩)]) (by simp) (by simp [go_sem]) ?_
  refine (iDecU1_idle ⟨n, 0, none⟩ ⟨n + 1, 0, none⟩ ⟨n + 1 + 1, 0, none⟩ _).mono ?_
  rintro e u' w'' ⟨rfl, rfl, rfl⟩
  have g0 : Fr [] w ((((w2.setCell ⟨n, 0, none⟩ (.int .u64 z)).setCell ⟨n, 0, none⟩ (.int .u64 z)).setCell ⟨n + 1, 0, none⟩ (.int .i64 p.length)).setCell ⟨n + 1 + 1, 0, none⟩ (.bool true)) :=
    ((((F0.out.then F2.out).setCell (.inr (by simp [Hn.out])) _).setCell (.inr (by simp [Hn.out])) _).setCell (.inr (by simp [Hn.out])) _).setCell (.inr (by simp [Hn.out]; omega)) _
  have e0 := cell_of_one (blk_set_other (i := 0) (u := .bool true) (g := n + 1 + 1) (blk_set_other (i := 0) (u := .int .i64 p.length) (g := n + 1) (one_setCell (u := .int .u64 z) (one_setCell (u := .int .u64 z) D0.out)) (by omega)) (by omega))
  have e1 := cell_of_one (blk_set_other (i := 0) (u := .bool true) (g := n + 1 + 1) (one_setCell (u := .int .i64 p.length) (blk_set_other (i := 0) (u := .int .u64 z) (g := n) (blk_set_other (i := 0) (u := .int .u64 z) (g := n) D1.out (by omega)) (by omega))) (by omega))
  have e2 := cell_of_one (one_setCell (u := .bool true) (blk_set_other (i := 0) (u := .int .i64 p.length) (g := n + 1) (blk_set_other (i := 0) (u := .int .u64 z) (g := n) (blk_set_other (i := 0) (u := .int .u64 z) (g := n) D2.out (by omega)) (by omega)) (by omega)))
  generalize ((((w2.setCell ⟨n, 0, none⟩ (.int .u64 z)).setCell ⟨n, 0, none⟩ (.int .u64 z)).setCell ⟨n + 1, 0, none⟩ (.int .i64 p.length)).setCell ⟨n + 1 + 1, 0, none⟩ (.bool true)) = wf at *
  refine ⟨.tuple #[.int .u64 z, .int .i64 p.length, .bool true], by simp [results, Try.results13, go_sem, e0, e1, e2], by rw [Hz.out], g0⟩

/-! ### impl.EncodeUnsigned -/
set_option maxRecDepth 100000 in
set_option maxHeartbeats 1000000 in
theorem iEncU_any (n : Nat) (hn : n < 18446744073709551616) (w : World) : Calls Try.prog 15 #[.int .u64 (n : Int)] w (Made (uleb n) w) := by
  have hb : BufW w.heap.size (w.alloc (.cells #[.slice none 0 0, .int .i64 0, .bool false] 79 (0, 0))) w.heap.size (.slice none 0 0) [] false :=
    ⟨blk_new _ _, World.ownsRow_nil _ _ _ _, by simp [Value.ownBlock]⟩
  have Hb := Lib.hid hb
  have Hn := Lib.hid hn
  clear hb hn
  go_enter Try.func15, Try.ntmps15
  go_wp2_with (go_at_call 36; go_must (refine (lEncU_any n Hn.out w.heap.size _ _ [] false _ Hb.out (by simp) (by simp)).mono ?_))
  rintro e w1 ⟨rfl, v', hb1, hf1⟩
  have Hb1 := Lib.hid hb1
  have Hf1 := Lib.hid hf1
  clear hb1 hf1
  go_wp2_with (go_at_call 37; go_must (refine (BufBytes_w w.heap.size _ v' _ _ _ Hb1.out (by simpa using uleb_pos n)).mono ?_))
  rintro e w2 ⟨rfl, k, rfl⟩
  go_wp2
  go_ret
  obtain ⟨a, c, hv⟩ := own_slice Hb1.out.2.1
  refine ⟨a, c, ?_, ?_, ?_⟩
  · have : v' = .slice a (uleb n).length c := by simpa using hv
    rw [← this]; rfl
  · have h1 := Hb1.out.2.1
    rw [hv] at h1
    exact h1
  · exact (((Fr.refl [] w).alloc _).trans Hf1.out (fun i hi hlt => by simp [Value.ownBlock] at hi; omega)).drewN _

/-! ### laws.works -/
set_option maxRecDepth 100000 in
set_option maxHeartbeats 1000000 in
theorem works_any (w : World) : Calls Try.prog 11 #[] w fun e w' => e = .returned (.bool true) ∧ Fr [] w w' := by
  have hs : Sl (w.alloc (.cells #[.int .u8 128, .int .u8 1] 5 (0, 0))) (.slice (some ⟨w.heap.size, 0, none⟩) 2 2) (vbs [128, 1]) :=
    sl_mk rfl (Nat.le_refl _) (by simp [maxLen]) (fun i v hi => by
      rw [blk_cell (blk_new _ _)]
      match i, hi with
      | 0, hi => cases hi; rfl
      | 1, hi => cases hi; rfl
      | i + 2, hi => simp at hi)
  have Hs := Lib.hid hs
  clear hs
  go_enter Try.func11, Try.ntmps11
  go_wp2_with (go_at_call 13; go_must (refine (iDecU_any _ [128, 1] [128, 1] [] _ Hs.out (by simp) rfl (by simp [Ended]) (by simp)).mono ?_))
  rintro e w1 ⟨rfl, hf⟩
  have e1 : uval [128, 1] % M64 = 128 := by decide
  rw [e1]
  have Hf := Lib.hid hf
  clear hf e1
  go_wp2
  go_ret
  exact ⟨rfl, ((Fr.refl [] w).alloc _).then Hf.out⟩
end Go.Proofs.Ytahohmdfllgedaa
