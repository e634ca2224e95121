/- spec.calls: instructions of call frames, written. -/
import Derived.Test.YtahohmdfllgedaaGreatFa1
import Derived.Deep.CutRange
import Derived.Deep.CutBlock
import Derived.Deep.LoopGhost
set_option linter.unusedVariables false
set_option linter.unusedSimpArgs false
namespace Go.Proofs.YtahohmdfllgedaaGreat
open Go.RowKit

/-- The row so far, and what an inner round reads besides: the instruction's own block, the arguments' cells. -/
def Inn (w : World) (b : Nat) (cs : Array Value) (ab ao : Nat) (xs : List Int) (l : List UInt8) (v : Value) (wx : World) : Prop :=
  ∃ a c, v = .slice a l.length c ∧ wx.ownsRow w.heap.size 5 1 (.slice a l.length c) l.length (vbs l) ∧ Fr [] w wx ∧ wx.heap[b]? = some (.cells cs 53 (0, 0)) ∧ ab < wx.heap.size ∧
    (∀ g, (Value.slice a l.length c).ownBlock = some g → g ≠ ab ∧ g ≠ b) ∧ (∀ i x, xs[i]? = some x → wx.cell? ⟨ab, ao + i, none⟩ = some (.int .i64 x))

/-- Behind an append of what was made meanwhile. -/
theorem Inn.app {w : World} {b : Nat} {cs : Array Value} {ab ao : Nat} {xs : List Int} {l m : List UInt8} {a : Option Addr} {c : Nat} {wx w2 w3 : World} {a' : Option Addr} {c' : Nat}
    (hown : wx.ownsRow w.heap.size 5 1 (.slice a l.length c) l.length (vbs l)) (hfr : Fr [] w wx) (hb : wx.heap[b]? = some (.cells cs 53 (0, 0))) (hab : ab < wx.heap.size)
    (hne : ∀ g, (Value.slice a l.length c).ownBlock = some g → g ≠ ab ∧ g ≠ b) (hx : ∀ i x, xs[i]? = some x → wx.cell? ⟨ab, ao + i, none⟩ = some (.int .i64 x))
    (f2 : Fr [] wx w2) (ho3 : w3.ownsRow w.heap.size 5 1 (.slice a' (l.length + m.length) c') (l.length + m.length) (vbs l ++ vbs m)) (f3 : Fr (Value.slice a l.length c).ownBlock.toList w2 w3)
    (hg : ∀ g, (Value.slice a' (l.length + m.length) c').ownBlock = some g → (Value.slice a l.length c).ownBlock = some g ∨ w2.heap.size ≤ g) :
    Inn w b cs ab ao xs (l ++ m) (.slice a' (l.length + m.length) c') w3 := by
  have hblt := lt_heap hb
  have h2 := f2.size
  have h3 := f3.size
  have n1 : ab ∉ (Value.slice a l.length c).ownBlock.toList := fun h => (hne ab (by simpa using h)).1 rfl
  have n2 : b ∉ (Value.slice a l.length c).ownBlock.toList := fun h => (hne b (by simpa using h)).2 rfl
  refine ⟨a', c', by simp, by simpa using ho3, (hfr.then f2).app hown (Nat.le_refl _) f3, f3.get (f2.get hb (by simp)) n2, by omega, fun g hgg => ?_, fun i x hi => f3.cell (f2.cell (hx i x hi) (by simp)) n1⟩
  rw [List.length_append] at hgg
  rcases hg g hgg with h | h
  · exact hne g h
  · omega

theorem own_news {w : World} {base e n c : Nat} {a : Option Addr} {vs : List Value} (h : w.ownsRow base e 1 (.slice a n c) n vs) :
    (a = none → n = 0 ∧ c = 0) ∧ ∀ ad, a = some ad → ∀ j u, vs[j]? = some u → w.cell? (ad.add j) = some u := by
  have hl := own_len h
  obtain ⟨ao, c', hv, h1, h2⟩ := sl_news (own_sl h)
  simp only [Value.slice.injEq] at hv
  obtain ⟨rfl, rfl, rfl⟩ := hv
  exact ⟨fun h => by have := h1 h; omega, h2⟩

theorem sl_news2 {w : World} {a : Option Addr} {n c : Nat} {vs : List Value} (h : Sl w (.slice a n c) vs) :
    (a = none → n = 0 ∧ c = 0) ∧ ∀ ad, a = some ad → ∀ j u, vs[j]? = some u → w.cell? (ad.add j) = some u := by
  obtain ⟨ao, c', hv, h1, h2⟩ := sl_news h
  simp only [Value.slice.injEq] at hv
  obtain ⟨rfl, rfl, rfl⟩ := hv
  exact ⟨h1, h2⟩
theorem vbs_len {l : List UInt8} {n : Nat} (h : l.length = n) : (vbs l).length = n * 1 := by simp [h]
theorem vbs_app (l m : List UInt8) : vbs (l ++ m) = vbs l ++ vbs m := List.map_append
theorem not_own {v v' : Value} {b s : Nat} (hg : ∀ g, v'.ownBlock = some g → v.ownBlock = some g ∨ s ≤ g) (hn : b ∉ v.ownBlock.toList) (hs : b < s) : b ∉ v'.ownBlock.toList := by
  intro h
  rcases hg b (by simpa using h) with h' | h'
  · exact hn (by simpa using h')
  · omega

theorem Little_lit (n k : Nat) (K : Int) (hK : K = (k : Int)) (hn : n < 18446744073709551616) (hk : k ≤ 8) (w : World) :
    Calls Tryz.prog 17 #[.int .u64 (n : Int), .int .i64 K] w (Made (leL n k) w) := by subst hK; exact Little_any n k hn hk w

theorem Little_ints (n k : Nat) (N K : Int) (hN : N = (n : Int)) (hK : K = (k : Int)) (hn : n < 18446744073709551616) (hk : k ≤ 8) (w : World) :
    Calls Tryz.prog 17 #[.int .u64 N, .int .i64 K] w (Made (leL n k) w) := by subst hN; subst hK; exact Little_any n k hn hk w
theorem Unsigned_int (n : Nat) (N : Int) (hN : N = (n : Int)) (hn : n < 18446744073709551616) (w : World) :
    Calls Tryz.prog 18 #[.int .u64 N] w (Made (uleb n) w) := by subst hN; exact Unsigned_any n hn w

set_option maxRecDepth 100000 in
set_option maxHeartbeats 8000000 in
theorem calls_any (W : World) (v : Value) (l : List LCall) (w : World) (h : RSl 4 (RCall W) W v l) (hw : Fr [] W w) (hl : l.length ≤ 40) (hr : ∀ c ∈ l, callRightB c.op c.a c.b c.data.length = true) :
    Calls Tryz.prog 21 #[v] w (Made (callsL l) w) := by
  obtain ⟨a0, c0, rfl, h1, h2⟩ := RSl.shape h
  have H := Lib.hid h
  have Hw := Lib.hid hw
  have Hr := Lib.hid hr
  clear h hw hr
  go_enter Tryz.func21, Tryz.ntmps21
  go_wp2_with fail
  go_loopw [3, 12] (fun v i wr => ∃ k : Nat, ∃ a c, k ≤ l.length ∧ i = .int .i64 (k : Int) ∧ v = .slice a (callsL (l.take k)).length c ∧ (callsL (l.take k)).length ≤ k * 141 ∧
      wr.ownsRow w.heap.size 5 1 (.slice a (callsL (l.take k)).length c) (callsL (l.take k)).length (vbs (callsL (l.take k))) ∧ Fr [] w wr) (fun _ i _ => l.length - (intOf i).toNat)
  case atStart => exact ⟨0, none, 0, Nat.zero_le _, rfl, rfl, by simp [callsL], World.ownsRow_nil _ _ _ _, Fr.refl _ _⟩
  case round =>
    obtain ⟨wo, rfl⟩ : ∃ wo : World, wo = wr := ⟨_, rfl⟩
    obtain ⟨k, a, c, hk, rfl, rfl, hlen, hown, hfr⟩ := hrel
    have Hown := Lib.hid hown
    have Hfr := Lib.hid hfr
    clear hown hfr
    by_cases hlt : k < l.length
    case neg =>
      obtain rfl : k = l.length := by omega
      clear hlt
      go_wp2
      go_ret
      have e : l.take l.length = l := List.take_length
      rw [e] at Hown
      exact ⟨a, c, by rw [e]; rfl, Hown.out, Hfr.out⟩
    case pos =>
      obtain ⟨g, o, da, dc, rfl, d0, d1, d2, d3, hd, hi0, hi1, hi2⟩ := call_at H.out (Hw.out.then Hfr.out) k hlt
      have hstep := callsL_take l k hlt
      have hright := Hr.out _ (List.getElem_mem hlt)
      generalize l[k] = x at *
      generalize callsL (l.take k) = out0 at *
      have Hs := Lib.hid (And.intro hstep (And.intro hright (And.intro hd (And.intro hi0 (And.intro hi1 hi2)))))
      clear hstep hright hd hi0 hi1 hi2
      obtain ⟨op, xa, xb, xd⟩ := x
      simp only at d0 d1 d2 d3
      by_cases h64 : op = 64
      · as_aux_lemma =>
        subst h64
        have hra : 0 ≤ xa ∧ xa < 64 := by
          have := Hs.out.2.1; simp [callRightB, rightB] at this; exact this.2
        obtain ⟨y, hy, hyh⟩ : ∃ y : UInt8, bits .or .u8 64 xa = ((y.toNat : Nat) : Int) ∧ headB ⟨64, xa, xb, xd⟩ = y := by
          refine ⟨_, ?_, rfl⟩
          obtain ⟨n, rfl⟩ : ∃ n : Nat, xa = (n : Int) := ⟨xa.toNat, by omega⟩
          have hn : n < 64 := by omega
          have : ∀ n : Fin 64, bits .or .u8 64 ((n.val : Nat) : Int) = (((headB ⟨64, ((n.val : Nat) : Int), 0, []⟩).toNat : Nat) : Int) := by decide
          exact this ⟨n, hn⟩
        have e : callL ⟨64, xa, xb, xd⟩ = [y] := by rw [callL, hyh]; rfl
        have e2 : callsL (l.take (k + 1)) = out0 ++ [y] := by rw [Hs.out.1, e]
        have He := Lib.hid e2
        have hm : xa % 256 = xa := by omega
        clear e e2 hyh
        go_wp2_with (first | (go_at_call 35; go_must (refine (callShape_any _ _).mono ?_; rintro e w1 ⟨rfl, rfl⟩)) | (at_builtin; go_must (refine wpList_app sliceB _ rfl _ _ rfl w.heap.size _ out0.length (vbs out0) rfl (((Hown.out.alloc _).alloc _).alloc _) (some ⟨_, 0, none⟩) 1 1 [vb y] rfl rfl (fun h => by cases h) (news_one (by simp) _ _) (vbs_one [_]) ?_ (by decide) ?_ ?_)))
        · omega
        · have := Hfr.out.size; simp; omega
        intro a' c' w1 ho1 hf1 hg1
        have Ho1 := Lib.hid ho1
        have Hf1 := Lib.hid hf1
        clear ho1 hf1 hg1
        go_wp2
        go_roundw
        case rel =>
          refine ⟨k + 1, a', c', by omega, by go_num, ?_, ?_, ?_, ?_⟩
          · rw [He.out]; simp
          · rw [He.out]; simp; omega
          · rw [He.out]; simpa using Ho1.out
          · exact (((Hfr.out.alloc _).alloc _).alloc _).app Hown.out (Nat.le_refl _) Hf1.out
        case measure => simp [intOf]; omega
      by_cases h192 : op = 192
      · as_aux_lemma =>
        subst h192
        have hra : 0 ≤ xa ∧ xa < 64 := by
          have := Hs.out.2.1; simp [callRightB, rightB] at this; exact this.2
        obtain ⟨y, hy, hyh⟩ : ∃ y : UInt8, bits .or .u8 192 xa = ((y.toNat : Nat) : Int) ∧ headB ⟨192, xa, xb, xd⟩ = y := by
          refine ⟨_, ?_, rfl⟩
          obtain ⟨n, rfl⟩ : ∃ n : Nat, xa = (n : Int) := ⟨xa.toNat, by omega⟩
          have hn : n < 64 := by omega
          have : ∀ n : Fin 64, bits .or .u8 192 ((n.val : Nat) : Int) = (((headB ⟨192, ((n.val : Nat) : Int), 0, []⟩).toNat : Nat) : Int) := by decide
          exact this ⟨n, hn⟩
        have e : callL ⟨192, xa, xb, xd⟩ = [y] := by rw [callL, hyh]; rfl
        have e2 : callsL (l.take (k + 1)) = out0 ++ [y] := by rw [Hs.out.1, e]
        have He := Lib.hid e2
        have hm : xa % 256 = xa := by omega
        clear e e2 hyh
        go_wp2_with (first | (go_at_call 35; go_must (refine (callShape_any _ _).mono ?_; rintro e w1 ⟨rfl, rfl⟩)) | (at_builtin; go_must (refine wpList_app sliceB _ rfl _ _ rfl w.heap.size _ out0.length (vbs out0) rfl (((Hown.out.alloc _).alloc _).alloc _) (some ⟨_, 0, none⟩) 1 1 [vb y] rfl rfl (fun h => by cases h) (news_one (by simp) _ _) (vbs_one [_]) ?_ (by decide) ?_ ?_)))
        · omega
        · have := Hfr.out.size; simp; omega
        intro a' c' w1 ho1 hf1 hg1
        have Ho1 := Lib.hid ho1
        have Hf1 := Lib.hid hf1
        clear ho1 hf1 hg1
        go_wp2
        go_roundw
        case rel =>
          refine ⟨k + 1, a', c', by omega, by go_num, ?_, ?_, ?_, ?_⟩
          · rw [He.out]; simp
          · rw [He.out]; simp; omega
          · rw [He.out]; simpa using Ho1.out
          · exact (((Hfr.out.alloc _).alloc _).alloc _).app Hown.out (Nat.le_refl _) Hf1.out
        case measure => simp [intOf]; omega
      obtain ⟨y, hyh⟩ : ∃ y : UInt8, headB ⟨op, xa, xb, xd⟩ = y := ⟨_, rfl⟩
      obtain ⟨xs, hxs⟩ : ∃ xs : List Int, argsOf ⟨op, xa, xb, xd⟩ = xs := ⟨_, rfl⟩
      obtain ⟨s, hs⟩ : ∃ s : List UInt8, (shape op).1 = s := ⟨_, rfl⟩
      obtain ⟨S, hS⟩ : ∃ S : ByteArray, (⟨(shape op).1.toArray⟩ : ByteArray) = S := ⟨_, rfl⟩
      have he2 : callsL (l.take (k + 1)) = out0 ++ (y :: opnds xd s xs) := by rw [Hs.out.1, callL, hyh, hs, hxs]
      have hsg := shape_signs op
      have hsl := shape_len op
      have hsx := shape_args ⟨op, xa, xb, xd⟩
      have hx64 := args_i64 ⟨op, xa, xb, xd⟩ Hs.out.2.2.2.2.1 Hs.out.2.2.2.2.2
      have hSs : S.size = s.length := by rw [← hS, ← hs]; simp [ByteArray.size]
      have hSg : ∀ i (h : i < S.size) (h' : i < s.length), S[i] = s[i] := by
        intro i h h'
        subst hS; subst hs; rfl
      have hxd : xd.length ≤ 60 := by have := Hs.out.2.1; simp [callRightB] at this; exact this.1.2
      simp only [hs] at hsg hsl hsx
      rw [hxs] at hsx hx64
      have hopl := opnds_len xd hxd
      have HS := Lib.hid hS
      have Hp := Lib.hid (And.intro he2 (And.intro hsg (And.intro hSg (And.intro hx64 (And.intro hyh (And.intro hxs hopl))))))
      clear hS he2 hsg hSg hx64 hyh hxs hs hopl
      go_upto_region 7 with (go_at_call 35; go_must (refine (callShape_any _ _).mono ?_; rw [HS.out]; rintro e w1 ⟨rfl, rfl⟩))
      have hB1 : ((wo.alloc (.cells #[.int .i64 op, .int .i64 xa, .int .i64 xb, .slice da xd.length dc] 53)).alloc (.cells #[.int .i64 xa, .int .i64 xb] 2)).heap[wo.heap.size]? = some (.cells #[.int .i64 op, .int .i64 xa, .int .i64 xb, .slice da xd.length dc] 53 (0, 0)) := blk_alloc (blk_new _ _)
      have hA1 : ((wo.alloc (.cells #[.int .i64 op, .int .i64 xa, .int .i64 xb, .slice da xd.length dc] 53)).alloc (.cells #[.int .i64 xa, .int .i64 xb] 2)).heap[wo.heap.size + 1]? = some (.cells #[.int .i64 xa, .int .i64 xb] 2 (0, 0)) := by
        have := blk_new (wo.alloc (.cells #[.int .i64 op, .int .i64 xa, .int .i64 xb, .slice da xd.length dc] 53)) (.cells #[.int .i64 xa, .int .i64 xb] 2)
        simpa using this
      have hF1 : Fr [] wo ((wo.alloc (.cells #[.int .i64 op, .int .i64 xa, .int .i64 xb, .slice da xd.length dc] 53)).alloc (.cells #[.int .i64 xa, .int .i64 xb] 2)) := ((Fr.refl _ _).alloc _).alloc _
      generalize (wo.alloc (.cells #[.int .i64 op, .int .i64 xa, .int .i64 xb, .slice da xd.length dc] 53)).alloc (.cells #[.int .i64 xa, .int .i64 xb] 2) = w1 at *
      have k0 := blk_cell hB1 0
      have k1 := blk_cell hB1 1
      have k2 := blk_cell hB1 2
      have k3 := blk_cell hB1 3
      have B1 := Lib.hid hB1
      have A1 := Lib.hid hA1
      have F1 := Lib.hid hF1
      have HO1 : Hid (w1.ownsRow w.heap.size 5 1 (.slice a out0.length c) out0.length (vbs out0)) := own_fr Hown.out hF1 (by simp)
      have HN : Hid (∀ g, (Value.slice a out0.length c).ownBlock = some g → g ≠ wo.heap.size + 1 ∧ g ≠ wo.heap.size) := by
        intro g hg; have := (Hown.out.lt g hg).2; omega
      clear d0 d1 d2 d3 hB1 hA1 hF1
      go_upto_block 2 with fail
      go_cut [3, 8] from 29 to 61 (fun s3 s8 wx => ∃ ab ao ac, s8 = .slice (some ⟨ab, ao, none⟩) xs.length ac ∧ Inn w wo.heap.size #[.int .i64 op, .int .i64 xa, .int .i64 xb, .slice da xd.length dc] ab ao xs (out0 ++ [y]) s3 wx)
      case first =>
        by_cases h128 : op = 128
        · as_aux_lemma =>
          subst h128
          have hra : 0 ≤ xa ∧ xa < 64 := by
            have := Hs.out.2.1; simp [callRightB, rightB] at this; omega
          have hy : bits .or .u8 128 xa = ((y.toNat : Nat) : Int) := by
            rw [← Hp.out.2.2.2.2.1]
            obtain ⟨n, rfl⟩ : ∃ n : Nat, xa = (n : Int) := ⟨xa.toNat, by omega⟩
            have hn : n < 64 := by omega
            have : ∀ n : Fin 64, bits .or .u8 128 ((n.val : Nat) : Int) = (((headB ⟨128, ((n.val : Nat) : Int), 0, []⟩).toNat : Nat) : Int) := by decide
            exact this ⟨n, hn⟩
          have hm : xa % 256 = xa := by omega
          have Hxs : Hid (xs = [xb]) := by show _ = _; rw [← Hp.out.2.2.2.2.2.1]; rfl
          go_wp2_with (at_builtin; go_must (refine wpList_app sliceB _ rfl _ _ rfl w.heap.size _ out0.length (vbs out0) rfl (HO1.out.alloc _) (some ⟨_, 0, none⟩) 1 1 [vb y] rfl rfl (fun h => by cases h) (news_one (by simp) _ _) (vbs_one [_]) ?_ (by decide) ?_ ?_))
          · omega
          · have := Hfr.out.size; have := F1.out.size; simp; omega
          intro a' c' w2 ho1 hf1 hg1
          have Ho1 := Lib.hid ho1
          have Hf1 := Lib.hid hf1
          have Hg1 := Lib.hid hg1
          clear ho1 hf1 hg1
          go_wp2_with fail
          go_meet
          refine ⟨wo.heap.size + 1, 1, 1, by rw [Hxs.out]; rfl, ?_⟩
          refine Inn.app (m := [y]) HO1.out (Hfr.out.then F1.out) B1.out (lt_heap A1.out) HN.out (fun i x hi => ?_) ((Fr.refl _ _).alloc _) Ho1.out Hf1.out (by simpa using Hg1.out)
          rw [Hxs.out] at hi
          cases i with
          | zero => simp at hi; subst hi; exact blk_cell A1.out 1
          | succ i => simp at hi
        · as_aux_lemma =>
          have hy : op % 256 = ((y.toNat : Nat) : Int) := by
            have hop : 0 ≤ op ∧ op < 64 := by
              have := Hs.out.2.1
              rcases op_cases op with h | h
              · simp [callRightB, h] at this
              · omega
            rw [← Hp.out.2.2.2.2.1]
            simp [headB, h64, h192, h128]
            omega
          have Hxs : Hid (xs = [xa, xb]) := by show _ = _; rw [← Hp.out.2.2.2.2.2.1]; simp [argsOf, h128]
          go_wp2_with (at_builtin; go_must (refine wpList_app sliceB _ rfl _ _ rfl w.heap.size _ out0.length (vbs out0) rfl (HO1.out.alloc _) (some ⟨_, 0, none⟩) 1 1 [vb y] rfl rfl (fun h => by cases h) (news_one (by simp) _ _) (vbs_one [_]) ?_ (by decide) ?_ ?_))
          · omega
          · have := Hfr.out.size; have := F1.out.size; simp; omega
          intro a' c' w2 ho1 hf1 hg1
          have Ho1 := Lib.hid ho1
          have Hf1 := Lib.hid hf1
          have Hg1 := Lib.hid hg1
          clear ho1 hf1 hg1
          go_wp2_with fail
          go_meet
          refine ⟨wo.heap.size + 1, 0, 2, by rw [Hxs.out]; rfl, ?_⟩
          refine Inn.app (m := [y]) HO1.out (Hfr.out.then F1.out) B1.out (lt_heap A1.out) HN.out (fun i x hi => ?_) ((Fr.refl _ _).alloc _) Ho1.out Hf1.out (by simpa using Hg1.out)
          rw [Hxs.out] at hi
          rw [Nat.zero_add, blk_cell A1.out]
          match i, hi with
          | 0, hi => simp at hi; subst hi; rfl
          | 1, hi => simp at hi; subst hi; rfl
          | i + 2, hi => simp at hi
      case rest =>
        clear k0 k1 k2 k3 B1 A1 F1 HO1 HN Hown Hfr
        obtain ⟨ab, ao, ac, rfl, hI⟩ := hcut
        have HI := Lib.hid hI
        clear hI
        go_wp2_with fail
        go_loopw [3, 64] (fun v i wr => ∃ j : Nat, j ≤ s.length ∧ i = .int .i64 (j : Int) ∧ Inn w wo.heap.size #[.int .i64 op, .int .i64 xa, .int .i64 xb, .slice da xd.length dc] ab ao xs (out0 ++ [y] ++ opnds xd (s.take j) xs) v wr)
          (fun _ i _ => s.length - (intOf i).toNat)
        case atStart => exact ⟨0, Nat.zero_le _, rfl, by simpa [opnds] using HI.out⟩
        case round =>
          obtain ⟨w2, rfl⟩ : ∃ w2 : World, w2 = wr := ⟨_, rfl⟩
          clear HI
          obtain ⟨j, hj, rfl, a2, c2, rfl, hown2, hfr2, hb2, hab2, hne2, hx2⟩ := hrel
          have hol : (out0 ++ [y] ++ opnds xd (s.take j) xs).length ≤ 40 * 141 + 141 := by
            have := Hp.out.2.2.2.2.2.2 (s.take j) xs (fun ch h => Hp.out.2.1 ch (List.mem_of_mem_take h)) Hp.out.2.2.2.1
            simp at this ⊢; omega
          have hstep : ∀ h : j < s.length, ∀ h' : j < xs.length, out0 ++ [y] ++ opnds xd (s.take (j + 1)) xs = out0 ++ [y] ++ opnds xd (s.take j) xs ++ opnd xd s[j] xs[j] := by
            intro h h'; rw [opnds_take _ _ _ _ h h']; simp
          generalize hout1 : out0 ++ [y] ++ opnds xd (s.take j) xs = out1 at *
          have Hout1 := Lib.hid hout1
          have Hown2 := Lib.hid hown2
          have Hi2 := Lib.hid (And.intro hfr2 (And.intro hb2 (And.intro hab2 (And.intro hne2 hx2))))
          have Hstep := Lib.hid hstep
          clear hown2 hfr2 hb2 hab2 hne2 hx2 hstep hout1
          by_cases hlt2 : j < s.length
          case neg =>
            obtain rfl : j = s.length := by omega
            clear hlt2
            go_wp2_with fail
            go_roundw
            case rel =>
              have e : callsL (l.take (k + 1)) = out1 := by rw [Hp.out.1, ← Hout1.out, List.take_length]; simp
              refine ⟨k + 1, a2, c2, by omega, by go_num, ?_, ?_, ?_, Hi2.out.1⟩
              · rw [e]
              · rw [e]
                have := Hp.out.2.2.2.2.2.2 s xs Hp.out.2.1 Hp.out.2.2.2.1
                have h3 := congrArg List.length Hout1.out
                simp at h3; omega
              · rw [e]; exact Hown2.out
            case measure => simp [intOf]; omega
          case pos =>
            obtain ⟨z, hz⟩ : ∃ z, xs[j]? = some z := ⟨xs[j]'(by omega), List.getElem?_eq_getElem (by omega)⟩
            obtain ⟨ch, hch⟩ : ∃ ch, s[j] = ch := ⟨_, rfl⟩
            have hz2 : xs[j]'(by omega) = z := by have := List.getElem?_eq_getElem (l := xs) (i := j) (by omega); rw [hz] at this; exact (Option.some.inj this).symm
            have hst2 := Hstep.out hlt2 (by omega)
            rw [hch, hz2] at hst2
            have hcell := Hi2.out.2.2.2.2 j z hz
            have hz64 : i64 z := Hp.out.2.2.2.1 z (by rw [← hz2]; exact List.getElem_mem _)
            have hsgn : sign ch := Hp.out.2.1 ch (by rw [← hch]; exact List.getElem_mem _)
            have hlS : j < S.size := by omega
            have hSj : S[j] = ch := by rw [Hp.out.2.2.1 j hlS hlt2]; exact hch
            have hjx : (j : Int) < (xs.length : Int) := by omega
            obtain ⟨m, hm⟩ : ∃ m, u64of z = m := ⟨_, rfl⟩
            have hmc : z % 18446744073709551616 = (m : Int) := by rw [← hm]; exact u64of_cast z
            have Hz := Lib.hid (And.intro hz64 (And.intro (show m < 18446744073709551616 by rw [← hm]; exact u64of_lt z) hst2))
            have HM := Lib.hid hm
            have HMC := Lib.hid hmc
            clear hm hmc
            clear hz hch hz2 hst2 hz64
            have Hnab : Hid (ab ∉ (Value.slice a2 out1.length c2).ownBlock.toList) := fun h => (Hi2.out.2.2.2.1 ab (by simpa using h)).1 rfl
            have Hnb : Hid (wo.heap.size ∉ (Value.slice a2 out1.length c2).ownBlock.toList) := fun h => (Hi2.out.2.2.2.1 _ (by simpa using h)).2 rfl
            rcases hsgn with rfl | rfl | rfl | rfl | rfl | rfl | rfl
            · as_aux_lemma =>
              obtain ⟨out2, ho2⟩ : ∃ o, o = out1 ++ opnd xd 117 z := ⟨_, rfl⟩
              have e : opnd xd 117 z = uleb m := by (try rw [← HM.out]); rfl
              rw [e] at ho2
              have Ho2 := Lib.hid ho2
              have Hq : Hid (out1.length + (uleb m).length ≤ 4398046511104) := by show _ ≤ _; have := uleb_le10 Hz.out.2.1; omega
              have He := Lib.hid e
              clear e ho2
              go_wp2_with (first | (go_at_call 18; go_must (refine (Unsigned_int m _ HMC.out Hz.out.2.1 _).mono ?_); rintro e w3 ⟨a3, c3, rfl, ho3, hf3⟩; have Ho3 := Lib.hid ho3; have Hf3 := Lib.hid hf3; clear ho3 hf3) | (at_builtin; go_must (refine wpList_app sliceB _ rfl _ _ rfl w.heap.size _ out1.length (vbs out1) rfl (own_fr Hown2.out Hf3.out (by simp)) a3 (uleb m).length c3 (vbs (uleb m)) rfl (by simp) (own_news Ho3.out).1 (own_news Ho3.out).2 (vbs_one _) Hq.out (by decide) (Nat.le_trans Hi2.out.1.size Hf3.out.size) ?_)))
              intro a4 c4 w4 ho4 hf4 hg4
              have Ho4 := Lib.hid ho4
              have Hf4 := Lib.hid hf4
              have Hg4 := Lib.hid hg4
              clear ho4 hf4 hg4
              go_wp2_with fail
              go_roundw
              case rel =>
                refine ⟨j + 1, by omega, by go_num, ?_⟩
                rw [Hz.out.2.2, He.out]
                exact Inn.app Hown2.out Hi2.out.1 Hi2.out.2.1 Hi2.out.2.2.1 Hi2.out.2.2.2.1 Hi2.out.2.2.2.2 Hf3.out Ho4.out Hf4.out (by simpa using Hg4.out)
              case measure => simp [intOf]; omega
            · as_aux_lemma =>
              obtain ⟨out2, ho2⟩ : ∃ o, o = out1 ++ opnd xd 115 z := ⟨_, rfl⟩
              have e : opnd xd 115 z = sleb z := by (try rw [← HM.out]); rfl
              rw [e] at ho2
              have Ho2 := Lib.hid ho2
              have Hq : Hid (out1.length + (sleb z).length ≤ 4398046511104) := by show _ ≤ _; have := sleb_le10 Hz.out.1.1 Hz.out.1.2; omega
              have He := Lib.hid e
              clear e ho2
              go_wp2_with (first | (go_at_call 19; go_must (refine (Signed_any z Hz.out.1.1 Hz.out.1.2 _).mono ?_); rintro e w3 ⟨a3, c3, rfl, ho3, hf3⟩; have Ho3 := Lib.hid ho3; have Hf3 := Lib.hid hf3; clear ho3 hf3) | (at_builtin; go_must (refine wpList_app sliceB _ rfl _ _ rfl w.heap.size _ out1.length (vbs out1) rfl (own_fr Hown2.out Hf3.out (by simp)) a3 (sleb z).length c3 (vbs (sleb z)) rfl (by simp) (own_news Ho3.out).1 (own_news Ho3.out).2 (vbs_one _) Hq.out (by decide) (Nat.le_trans Hi2.out.1.size Hf3.out.size) ?_)))
              intro a4 c4 w4 ho4 hf4 hg4
              have Ho4 := Lib.hid ho4
              have Hf4 := Lib.hid hf4
              have Hg4 := Lib.hid hg4
              clear ho4 hf4 hg4
              go_wp2_with fail
              go_roundw
              case rel =>
                refine ⟨j + 1, by omega, by go_num, ?_⟩
                rw [Hz.out.2.2, He.out]
                exact Inn.app Hown2.out Hi2.out.1 Hi2.out.2.1 Hi2.out.2.2.1 Hi2.out.2.2.2.1 Hi2.out.2.2.2.2 Hf3.out Ho4.out Hf4.out (by simpa using Hg4.out)
              case measure => simp [intOf]; omega
            · as_aux_lemma =>
              obtain ⟨out2, ho2⟩ : ∃ o, o = out1 ++ opnd xd 97 z := ⟨_, rfl⟩
              have e : opnd xd 97 z = leL m 8 := by (try rw [← HM.out]); rfl
              rw [e] at ho2
              have Ho2 := Lib.hid ho2
              have Hq : Hid (out1.length + (leL m 8).length ≤ 4398046511104) := by show _ ≤ _; have := leL_length 8 m; omega
              have He := Lib.hid e
              clear e ho2
              go_wp2_with (first | (go_at_call 17; go_must (refine (Little_ints m 8 _ _ HMC.out (by rfl) Hz.out.2.1 (by decide) _).mono ?_); rintro e w3 ⟨a3, c3, rfl, ho3, hf3⟩; have Ho3 := Lib.hid ho3; have Hf3 := Lib.hid hf3; clear ho3 hf3) | (at_builtin; go_must (refine wpList_app sliceB _ rfl _ _ rfl w.heap.size _ out1.length (vbs out1) rfl (own_fr Hown2.out Hf3.out (by simp)) a3 (leL m 8).length c3 (vbs (leL m 8)) rfl (by simp) (own_news Ho3.out).1 (own_news Ho3.out).2 (vbs_one _) Hq.out (by decide) (Nat.le_trans Hi2.out.1.size Hf3.out.size) ?_)))
              intro a4 c4 w4 ho4 hf4 hg4
              have Ho4 := Lib.hid ho4
              have Hf4 := Lib.hid hf4
              have Hg4 := Lib.hid hg4
              clear ho4 hf4 hg4
              go_wp2_with fail
              go_roundw
              case rel =>
                refine ⟨j + 1, by omega, by go_num, ?_⟩
                rw [Hz.out.2.2, He.out]
                exact Inn.app Hown2.out Hi2.out.1 Hi2.out.2.1 Hi2.out.2.2.1 Hi2.out.2.2.2.1 Hi2.out.2.2.2.2 Hf3.out Ho4.out Hf4.out (by simpa using Hg4.out)
              case measure => simp [intOf]; omega
            · as_aux_lemma =>
              obtain ⟨n, hn⟩ : ∃ n, xd.length = n := ⟨_, rfl⟩
              have hn64 : n < 18446744073709551616 := by omega
              have hq1 := uleb_le10 hn64
              have hk3 : w2.cell? ⟨wo.heap.size, 3, none⟩ = some (.slice da n dc) := by rw [← hn]; exact blk_cell Hi2.out.2.1 3
              have He : Hid (opnd xd 98 z = uleb n ++ xd) := by show _ = _; rw [← hn]; rfl
              have HN := Lib.hid hn
              have Hq : Hid (out1.length + (uleb n).length ≤ 1099511627776) := by show _ ≤ _; omega
              have Hq2 : Hid (out1.length + (uleb n).length + n ≤ 1099511627776) := by show _ ≤ _; omega
              have HW : Hid (Sl W (.slice da n dc) (vbs xd)) := by show Sl _ _ _; rw [← hn]; exact Hs.out.2.2.1
              have hw1 : IntKind.u64.wrap (n : Int) = (n : Int) := by show (n : Int) % 18446744073709551616 = n; omega
              have Hn64 := Lib.hid hn64
              clear hq1 hn hn64
              go_wp2_with fail
              go_region_held3 (fun w' => w'.cell? ⟨wo.heap.size, 3, none⟩ = some (.slice da n dc)) (first | assumption | exact Hf3.out.cell (by assumption) (by simp) | exact Hf5.out.cell (by assumption) Hn5.out | exact Hf4.out.cell (by assumption) Hnb.out)
                (first | (go_at_call 18; refine (Unsigned_any n Hn64.out _).mono ?_; rintro e w3 ⟨a3, c3, rfl, ho3, hf3⟩; have Ho3 := Lib.hid ho3; have Hf3 := Lib.hid hf3; clear ho3 hf3) | (refine step_app2 sliceB _ (by rfl) _ _ (by rfl) w.heap.size _ (out1.length + (uleb n).length) (vbs out1 ++ vbs (uleb n)) (by rfl) Ho4.out da n dc (vbs xd) (by rfl) HL.out H4.out.1 H4.out.2 (vbs_one _) Hq2.out (by decide) Hb4.out ?_; intro a5 c5 w5 ho5 hf5 hg5; have Ho5 := Lib.hid ho5; have Hf5 := Lib.hid hf5; have Hg5 := Lib.hid hg5; clear ho5 hf5 hg5; have Hn5 : Hid (wo.heap.size ∉ (Value.slice a4 (out1.length + (uleb n).length) c4).ownBlock.toList) := not_own Hg4.out Hnb.out Hsz.out) | (refine step_app2 sliceB _ (by rfl) _ _ (by rfl) w.heap.size _ out1.length (vbs out1) (by rfl) (own_fr Hown2.out (((Fr.refl [] w2).drew).then Hf3.out) (by simp)) a3 (uleb n).length c3 (vbs (uleb n)) (by rfl) (by simp) (own_news Ho3.out).1 (own_news Ho3.out).2 (vbs_one _) Hq.out (by decide) (Nat.le_trans Hi2.out.1.size Hf3.out.size) ?_; intro a4 c4 w4 ho4 hf4 hg4; have Ho4 := Lib.hid ho4; have Hf4 := Lib.hid hf4; have Hg4 := Lib.hid hg4; clear ho4 hf4 hg4; have HFW : Hid (Fr [] w w4) := (Hi2.out.1.then (((Fr.refl [] w2).drew).then Hf3.out)).app Hown2.out (Nat.le_refl _) Hf4.out; have H4 := Lib.hid (sl_news2 (HW.out.fr (Hw.out.then HFW.out) (by simp))); have HL : Hid ((vbs xd).length = n * 1) := vbs_len HN.out; have Hb4 : Hid (w.heap.size ≤ w4.heap.size) := HFW.out.size; have Hsz : Hid (wo.heap.size < w3.heap.size) := Nat.lt_of_lt_of_le (lt_heap Hi2.out.2.1) Hf3.out.size))
              clear hw1
              go_wp2_with fail
              go_roundw
              case rel =>
                refine ⟨j + 1, by omega, by go_num, ?_⟩
                rw [Hz.out.2.2, He.out, ← List.append_assoc]
                have I4 := Inn.app Hown2.out Hi2.out.1 Hi2.out.2.1 Hi2.out.2.2.1 Hi2.out.2.2.2.1 Hi2.out.2.2.2.2 (((Fr.refl [] w2).drew).then Hf3.out) Ho4.out Hf4.out (by simpa using Hg4.out)
                obtain ⟨a6, c6, hv6, hown6, hfr6, hb6, hab6, hne6, hx6⟩ := I4
                simp only [Value.slice.injEq] at hv6
                obtain ⟨rfl, -, rfl⟩ := hv6
                have e1 : (out1 ++ uleb n).length = out1.length + (uleb n).length := List.length_append
                have e2 : out1.length + (uleb n).length + n = (out1 ++ uleb n).length + xd.length := by rw [e1, HN.out]
                rw [e2]
                refine Inn.app hown6 hfr6 hb6 hab6 hne6 hx6 (Fr.refl _ _) ?_ ?_ ?_
                · rw [← e2, vbs_app]; exact Ho5.out
                · rw [e1]; exact Hf5.out
                · rw [← e2, e1]; exact Hg5.out
              case measure => simp [intOf]; omega
            · as_aux_lemma =>
              have hz0 := hcell
              obtain ⟨Hq⟩ : Nonempty (Hid (out1.length + (leL m 1).length ≤ 1099511627776)) := ⟨by show _ ≤ _; have := leL_length 1 m; omega⟩
              have He : Hid (opnd xd 49 z = leL m 1) := by show _ = _; rw [← HM.out]; rfl
              go_wp2_with fail
              have hw1 : IntKind.u64.wrap z = (m : Int) := HMC.out
              have hw2 : ∀ n : Nat, n < 10 → IntKind.u8.wrap (n : Int) = (n : Int) := by intro n hn; show (n : Int) % 256 = n; omega
              have hw3 : ∀ n : Nat, n < 10 → IntKind.i64.wrap (n : Int) = (n : Int) := by intro n hn; rw [wrap_i64_eq]; exact wrap64_id (by omega) (by omega)
              have hw4 : IntKind.u8.wrap 1 = 1 := hw2 1 (by decide)
              have hw5 : IntKind.i64.wrap 1 = 1 := hw3 1 (by decide)
              have hw6 : IntKind.u8.wrap 2 = 2 := hw2 2 (by decide)
              have hw7 : IntKind.i64.wrap 2 = 2 := hw3 2 (by decide)
              have hw8 : IntKind.u8.wrap 4 = 4 := hw2 4 (by decide)
              have hw9 : IntKind.i64.wrap 4 = 4 := hw3 4 (by decide)
              clear hw2 hw3
              go_region_held3 (fun w' => w'.cell? ⟨ab, ao + j, none⟩ = some (.int .i64 z)) (first | assumption | exact Hf3.out.cell (by assumption) (by simp) | exact Hf4.out.cell (by assumption) Hnab.out)
                (first | (go_at_call 17; refine (Little_lit m 1 _ (by rfl) Hz.out.2.1 (by decide) _).mono ?_; rintro e w3 ⟨a3, c3, rfl, ho3, hf3⟩; have Ho3 := Lib.hid ho3; have Hf3 := Lib.hid hf3; clear ho3 hf3) | (refine step_app2 sliceB _ (by rfl) _ _ (by rfl) w.heap.size _ out1.length (vbs out1) (by rfl) (own_fr Hown2.out (((Fr.refl [] w2).drew).then Hf3.out) (by simp)) a3 (leL m 1).length c3 (vbs (leL m 1)) (by rfl) (by simp) (own_news Ho3.out).1 (own_news Ho3.out).2 (vbs_one _) Hq.out (by decide) (Nat.le_trans Hi2.out.1.size Hf3.out.size) ?_; intro a4 c4 w4 ho4 hf4 hg4; have Ho4 := Lib.hid ho4; have Hf4 := Lib.hid hf4; have Hg4 := Lib.hid hg4; clear ho4 hf4 hg4))
              clear hw1 hw4 hw5 hw6 hw7 hw8 hw9
              go_wp2_with fail
              go_roundw
              case rel =>
                refine ⟨j + 1, by omega, by go_num, ?_⟩
                rw [Hz.out.2.2, He.out]
                exact Inn.app Hown2.out Hi2.out.1 Hi2.out.2.1 Hi2.out.2.2.1 Hi2.out.2.2.2.1 Hi2.out.2.2.2.2 (((Fr.refl [] w2).drew).then Hf3.out) Ho4.out Hf4.out (by simpa using Hg4.out)
              case measure => simp [intOf]; omega
            · as_aux_lemma =>
              have hz0 := hcell
              obtain ⟨Hq⟩ : Nonempty (Hid (out1.length + (leL m 2).length ≤ 1099511627776)) := ⟨by show _ ≤ _; have := leL_length 2 m; omega⟩
              have He : Hid (opnd xd 50 z = leL m 2) := by show _ = _; rw [← HM.out]; rfl
              go_wp2_with fail
              have hw1 : IntKind.u64.wrap z = (m : Int) := HMC.out
              have hw2 : ∀ n : Nat, n < 10 → IntKind.u8.wrap (n : Int) = (n : Int) := by intro n hn; show (n : Int) % 256 = n; omega
              have hw3 : ∀ n : Nat, n < 10 → IntKind.i64.wrap (n : Int) = (n : Int) := by intro n hn; rw [wrap_i64_eq]; exact wrap64_id (by omega) (by omega)
              have hw4 : IntKind.u8.wrap 1 = 1 := hw2 1 (by decide)
              have hw5 : IntKind.i64.wrap 1 = 1 := hw3 1 (by decide)
              have hw6 : IntKind.u8.wrap 2 = 2 := hw2 2 (by decide)
              have hw7 : IntKind.i64.wrap 2 = 2 := hw3 2 (by decide)
              have hw8 : IntKind.u8.wrap 4 = 4 := hw2 4 (by decide)
              have hw9 : IntKind.i64.wrap 4 = 4 := hw3 4 (by decide)
              clear hw2 hw3
              go_region_held3 (fun w' => w'.cell? ⟨ab, ao + j, none⟩ = some (.int .i64 z)) (first | assumption | exact Hf3.out.cell (by assumption) (by simp) | exact Hf4.out.cell (by assumption) Hnab.out)
                (first | (go_at_call 17; refine (Little_lit m 2 _ (by rfl) Hz.out.2.1 (by decide) _).mono ?_; rintro e w3 ⟨a3, c3, rfl, ho3, hf3⟩; have Ho3 := Lib.hid ho3; have Hf3 := Lib.hid hf3; clear ho3 hf3) | (refine step_app2 sliceB _ (by rfl) _ _ (by rfl) w.heap.size _ out1.length (vbs out1) (by rfl) (own_fr Hown2.out (((Fr.refl [] w2).drew).then Hf3.out) (by simp)) a3 (leL m 2).length c3 (vbs (leL m 2)) (by rfl) (by simp) (own_news Ho3.out).1 (own_news Ho3.out).2 (vbs_one _) Hq.out (by decide) (Nat.le_trans Hi2.out.1.size Hf3.out.size) ?_; intro a4 c4 w4 ho4 hf4 hg4; have Ho4 := Lib.hid ho4; have Hf4 := Lib.hid hf4; have Hg4 := Lib.hid hg4; clear ho4 hf4 hg4))
              clear hw1 hw4 hw5 hw6 hw7 hw8 hw9
              go_wp2_with fail
              go_roundw
              case rel =>
                refine ⟨j + 1, by omega, by go_num, ?_⟩
                rw [Hz.out.2.2, He.out]
                exact Inn.app Hown2.out Hi2.out.1 Hi2.out.2.1 Hi2.out.2.2.1 Hi2.out.2.2.2.1 Hi2.out.2.2.2.2 (((Fr.refl [] w2).drew).then Hf3.out) Ho4.out Hf4.out (by simpa using Hg4.out)
              case measure => simp [intOf]; omega
            · as_aux_lemma =>
              have hz0 := hcell
              obtain ⟨Hq⟩ : Nonempty (Hid (out1.length + (leL m 4).length ≤ 1099511627776)) := ⟨by show _ ≤ _; have := leL_length 4 m; omega⟩
              have He : Hid (opnd xd 52 z = leL m 4) := by show _ = _; rw [← HM.out]; rfl
              go_wp2_with fail
              have hw1 : IntKind.u64.wrap z = (m : Int) := HMC.out
              have hw2 : ∀ n : Nat, n < 10 → IntKind.u8.wrap (n : Int) = (n : Int) := by intro n hn; show (n : Int) % 256 = n; omega
              have hw3 : ∀ n : Nat, n < 10 → IntKind.i64.wrap (n : Int) = (n : Int) := by intro n hn; rw [wrap_i64_eq]; exact wrap64_id (by omega) (by omega)
              have hw4 : IntKind.u8.wrap 1 = 1 := hw2 1 (by decide)
              have hw5 : IntKind.i64.wrap 1 = 1 := hw3 1 (by decide)
              have hw6 : IntKind.u8.wrap 2 = 2 := hw2 2 (by decide)
              have hw7 : IntKind.i64.wrap 2 = 2 := hw3 2 (by decide)
              have hw8 : IntKind.u8.wrap 4 = 4 := hw2 4 (by decide)
              have hw9 : IntKind.i64.wrap 4 = 4 := hw3 4 (by decide)
              clear hw2 hw3
              go_region_held3 (fun w' => w'.cell? ⟨ab, ao + j, none⟩ = some (.int .i64 z)) (first | assumption | exact Hf3.out.cell (by assumption) (by simp) | exact Hf4.out.cell (by assumption) Hnab.out)
                (first | (go_at_call 17; refine (Little_lit m 4 _ (by rfl) Hz.out.2.1 (by decide) _).mono ?_; rintro e w3 ⟨a3, c3, rfl, ho3, hf3⟩; have Ho3 := Lib.hid ho3; have Hf3 := Lib.hid hf3; clear ho3 hf3) | (refine step_app2 sliceB _ (by rfl) _ _ (by rfl) w.heap.size _ out1.length (vbs out1) (by rfl) (own_fr Hown2.out (((Fr.refl [] w2).drew).then Hf3.out) (by simp)) a3 (leL m 4).length c3 (vbs (leL m 4)) (by rfl) (by simp) (own_news Ho3.out).1 (own_news Ho3.out).2 (vbs_one _) Hq.out (by decide) (Nat.le_trans Hi2.out.1.size Hf3.out.size) ?_; intro a4 c4 w4 ho4 hf4 hg4; have Ho4 := Lib.hid ho4; have Hf4 := Lib.hid hf4; have Hg4 := Lib.hid hg4; clear ho4 hf4 hg4))
              clear hw1 hw4 hw5 hw6 hw7 hw8 hw9
              go_wp2_with fail
              go_roundw
              case rel =>
                refine ⟨j + 1, by omega, by go_num, ?_⟩
                rw [Hz.out.2.2, He.out]
                exact Inn.app Hown2.out Hi2.out.1 Hi2.out.2.1 Hi2.out.2.2.1 Hi2.out.2.2.2.1 Hi2.out.2.2.2.2 (((Fr.refl [] w2).drew).then Hf3.out) Ho4.out Hf4.out (by simpa using Hg4.out)
              case measure => simp [intOf]; omega
end Go.Proofs.YtahohmdfllgedaaGreat
