/- spec.padded.
Rows of bytes in the making: owned since an earlier world, appended to. -/
import Derived.Test.YtahohmdfllgedaaGreatFa1
import Derived.Test.YtahohmdfllgedaaGreatFa2
set_option linter.unusedVariables false
set_option linter.unusedSimpArgs false
namespace Go.Proofs.YtahohmdfllgedaaGreat
open Go.RowKit

set_option maxRecDepth 100000 in
set_option maxHeartbeats 4000000 in
theorem padded_any (base : Nat) (a0 : Option Addr) (c0 : Nat) (l : List UInt8) (w : World) (h : w.ownsRow base 5 1 (.slice a0 l.length c0) l.length (vbs l)) (hb : base ≤ w.heap.size) (hl : l.length ≤ 1073741824) :
    Calls Tryz.prog 20 #[.slice a0 l.length c0] w fun e w' => ∃ a c, e = .returned (.slice a (padL l).length c) ∧
      w'.ownsRow w.heap.size 5 1 (.slice a (padL l).length c) (padL l).length (vbs (padL l)) ∧ Fr (Value.slice a0 l.length c0).ownBlock.toList w w' := by
  have H := Lib.hid h
  have Hb := Lib.hid hb
  clear h hb
  obtain ⟨K, hK⟩ : ∃ K, padK l.length = K := ⟨_, rfl⟩
  have hK8 : K < 8 := by rw [← hK]; unfold padK; omega
  have HK := Lib.hid hK
  clear hK
  go_enter Tryz.func20, Tryz.ntmps20
  go_wp2_with fail
  go_loopw [0] (fun v wr => ∃ j : Nat, ∃ a c, j ≤ K ∧ v = .slice a (l.length + j) c ∧ wr.ownsRow base 5 1 (.slice a (l.length + j) c) (l.length + j) (vbs (l ++ List.replicate j 0)) ∧
      Fr (Value.slice a0 l.length c0).ownBlock.toList w wr ∧ (∀ g, (Value.slice a (l.length + j) c).ownBlock = some g → (Value.slice a0 l.length c0).ownBlock = some g ∨ w.heap.size ≤ g))
    (fun v _ => match v with | .slice _ n _ => l.length + K - n | _ => 0)
  case atStart => exact ⟨0, a0, c0, Nat.zero_le _, rfl, by simpa using H.out, Fr.refl _ _, fun g h => .inl h⟩
  case round =>
    obtain ⟨j, a, c, hj, rfl, hown, hfr, hg⟩ := hrel
    have Hown := Lib.hid hown
    have Hfr := Lib.hid hfr
    have Hg := Lib.hid hg
    clear hown hfr hg
    by_cases hlt : j < K
    case pos =>
      have ht : (((l.length : Int) + (j : Int) + 4) % 8 != 0) = true := by
        rw [bne_iff_ne]; have := HK.out; unfold padK at this; omega
      go_wp2_with (at_builtin; go_must (refine wpList_app sliceB _ rfl _ _ rfl base _ (l.length + j) (vbs (l ++ List.replicate j 0)) rfl (Hown.out.alloc _) (some ⟨wr.heap.size, 0, none⟩) 1 1 [Value.int .u8 0] rfl rfl (fun h => by cases h) (news_one rfl _ _) (by simp [Value.oneCell']) ?_ (by decide) ?_ ?_))
      · omega
      · have := Hfr.out.size; have := Hb.out; simp; omega
      intro a' c' w1 ho1 hf1 hg1
      have Ho1 := Lib.hid ho1
      have Hf1 := Lib.hid hf1
      have Hg1 := Lib.hid hg1
      clear ho1 hf1 hg1
      go_wp2_with fail
      refine ⟨⟨j + 1, a', c', by omega, rfl, ?_, ?_, ?_⟩, ?_⟩
      · have e : vbs (l ++ List.replicate (j + 1) 0) = List.map vb l ++ (List.replicate j (vb 0) ++ [Value.int .u8 0]) := by
          rw [List.replicate_succ', vbs, List.map_append, List.map_append, List.map_replicate]; rfl
        rw [e]; exact Ho1.out
      · refine (Hfr.out.alloc _).trans Hf1.out (fun i hi hlt => ?_)
        rcases Hg.out i (by simpa using hi) with h | h
        · simpa using h
        · omega
      · intro g h
        rcases Hg1.out g h with h | h
        · exact Hg.out g h
        · have := Hfr.out.size; (try simp at h); right; omega
      · simp; omega
    case neg =>
      obtain rfl : j = K := by omega
      have ht : (((l.length : Int) + (j : Int) + 4) % 8 != 0) = false := by
        rw [bne_eq_false_iff_eq]; have := HK.out; unfold padK at this; omega
      have e : padL l = leL (l.length + j) 4 ++ (l ++ List.replicate j 0) := by rw [padL, HK.out]
      have He := Lib.hid e
      have Hlen : Hid ((l ++ List.replicate j 0).length = l.length + j) := by show _ = _; simp
      have hlt64 : l.length + j < 18446744073709551616 := by omega
      have Hlt64 := Lib.hid hlt64
      clear e hlt hlt64
      go_wp2_with (first | (go_at_call 17; go_must (refine (Little_ints (l.length + j) 4 _ _ (by push_cast; rfl) (by rfl) Hlt64.out (by decide) _).mono ?_); rintro e w3 ⟨a3, c3, rfl, ho3, hf3⟩; have Ho3 := Lib.hid ho3; have Hf3 := Lib.hid hf3; clear ho3 hf3) | (at_builtin; go_must (refine wpList_app sliceB _ rfl _ _ rfl w.heap.size _ (leL (l.length + j) 4).length (vbs (leL (l.length + j) 4)) rfl (own_base Ho3.out Hfr.out.size) a (l.length + j) c (vbs (l ++ List.replicate j 0)) rfl (by simp) (own_news (own_fr Hown.out Hf3.out (by simp))).1 (own_news (own_fr Hown.out Hf3.out (by simp))).2 (vbs_one _) ?_ (by decide) ?_ ?_)))
      · rw [leL_length]; omega
      · exact Nat.le_trans Hfr.out.size Hf3.out.size
      intro a' c' w1 ho1 hf1 hg1
      have Ho1 := Lib.hid ho1
      have Hf1 := Lib.hid hf1
      clear ho1 hf1 hg1
      go_wp2_with fail
      go_ret
      have e2 : (padL l).length = (leL (l.length + j) 4).length + (l.length + j) := by rw [He.out, List.length_append, Hlen.out]
      refine ⟨a', c', by rw [e2]; rfl, ?_, ?_⟩
      · rw [e2, He.out, vbs_app, show vbs (l ++ List.replicate j 0) = List.map vb l ++ List.replicate j (vb 0) from by rw [vbs, List.map_append, List.map_replicate]]; exact Ho1.out
      · exact (Hfr.out.then Hf3.out).trans Hf1.out (fun i hi hlt => by simp at hi; have := own_ge Ho3.out hi; have := Hfr.out.size; omega)

end Go.Proofs.YtahohmdfllgedaaGreat

namespace Go.Proofs.YtahohmdfllgedaaGreat
open Go.RowKit

/-- A row of n bytes l that was made since w0; nothing older has turned. -/
structure OwnR (w0 w : World) (a : Option Addr) (n c : Nat) (l : List UInt8) : Prop where
  len : n = l.length
  own : w.ownsRow w0.heap.size 5 1 (.slice a n c) n (vbs l)
  fr : Fr [] w0 w

section
variable {w0 w w' : World} {a : Option Addr} {n c : Nat} {l m : List UInt8}
theorem OwnR.nil (f : Fr [] w0 w) : OwnR w0 w none 0 0 [] := ⟨rfl, World.ownsRow_nil _ _ _ _, f⟩
theorem OwnR.call (h : OwnR w0 w a n c l) (f : Fr [] w w') : OwnR w0 w' a n c l := ⟨h.len, own_fr h.own f (by simp), h.fr.then f⟩
/-- Behind a call that made l. -/
theorem OwnR.made (f : Fr [] w0 w) (o : w'.ownsRow w.heap.size 5 1 (.slice a l.length c) l.length (vbs l)) (g : Fr [] w w') : OwnR w0 w' a l.length c l := ⟨rfl, own_base o f.size, f.then g⟩
theorem OwnR.sl (h : OwnR w0 w a n c l) : Sl w (.slice a n c) (vbs l) := own_sl h.own
theorem OwnR.inj (h : OwnR w0 w a n c l) : ∃ c', c = c' ∧ n = l.length := ⟨c, rfl, h.len⟩
theorem OwnR.base {w1 : World} (h : OwnR w1 w a n c l) (f : Fr [] w0 w1) : OwnR w0 w a n c l := ⟨h.len, own_base h.own f.size, f.then h.fr⟩
theorem OwnR.lt (h : OwnR w0 w a n c l) {g : Nat} (hg : (Value.slice a n c).ownBlock = some g) : w0.heap.size ≤ g ∧ g < w.heap.size := h.own.lt g hg
/-- What the call appends to it turns nothing that was there at w0. -/
theorem OwnR.then (h : OwnR w0 w a n c l) (f : Fr (Value.slice a n c).ownBlock.toList w w') : Fr [] w0 w' := h.fr.app h.own (Nat.le_refl _) f

theorem sl_news3 {a1 : Option Addr} {n1 c1 : Nat} {vs : List Value} (h : Sl w (.slice a1 n1 c1) vs) :
    n1 = vs.length ∧ (a1 = none → n1 = 0 ∧ c1 = 0) ∧ ∀ ad, a1 = some ad → ∀ j u, vs[j]? = some u → w.cell? (ad.add j) = some u := by
  obtain ⟨ao, c', hv, h1, h2⟩ := sl_news h
  simp only [Value.slice.injEq] at hv
  obtain ⟨rfl, rfl, rfl⟩ := hv
  exact ⟨rfl, h1, h2⟩

theorem OwnR.app_list {ops : Array Oper} {rest : List Oper} {o : Oper} {at_ : Act} {Q : Exit → Act → World → Prop} {ax : Option Addr} {nx cx : Nat} (h : OwnR w0 w a n c l) (hm : Sl w (.slice ax nx cx) (vbs m))
    (hgd : o.guard = none) (s x : Operand) (ho : o.op = .call { callee := .builtin .append, args := #[s, x], argTypes := #[26, 26] }) (hs : at_.eval s = .slice a n c) (hx : at_.eval x = .slice ax nx cx)
    (hlen : n + nx ≤ 1099511627776)
    (k : ∀ a' c' w', OwnR w0 w' a' (n + nx) c' (l ++ m) → Fr (Value.slice a n c).ownBlock.toList w w' →
      wpList Tryz.prog ops Q rest (at_.put o.dst (.slice a' (n + nx) c')) w') :
    wpList Tryz.prog ops Q (o :: rest) at_ w := by
  obtain ⟨q1, q2, q3⟩ := sl_news3 hm
  refine wpList_app2 sliceB _ hgd s x ho w0.heap.size _ n (vbs l) hs h.own ax nx cx (vbs m) hx (by omega) q2 q3 (vbs_one _) hlen (by decide) h.fr.size ?_
  intro a' c' w' ho' hf' hg'
  refine k a' c' w' ⟨?_, ?_, h.then hf'⟩ hf'
  · rw [List.length_append, ← h.len]; simp at q1; omega
  · rw [vbs_app]; exact ho'

theorem OwnR.app_step {ops : Array Oper} {o : Oper} {at_ : Act} {K : Act → World → Prop} {Q : Exit → Act → World → Prop} {E : Prop} {ax : Option Addr} {nx cx : Nat} (h : OwnR w0 w a n c l) (hm : Sl w (.slice ax nx cx) (vbs m))
    (hgd : o.guard = none) (s x : Operand) (ho : o.op = .call { callee := .builtin .append, args := #[s, x], argTypes := #[26, 26] }) (hs : at_.eval s = .slice a n c) (hx : at_.eval x = .slice ax nx cx)
    (hlen : n + nx ≤ 1099511627776)
    (k : ∀ a' c' w', OwnR w0 w' a' (n + nx) c' (l ++ m) → Fr (Value.slice a n c).ownBlock.toList w w' →
      K (at_.put o.dst (.slice a' (n + nx) c')) w') :
    if Region.wanted o (yielded ops at_.tmps) = true then Oper.wp Tryz.prog o at_ w K Q else E := by
  obtain ⟨q1, q2, q3⟩ := sl_news3 hm
  refine step_app2 sliceB _ hgd s x ho w0.heap.size _ n (vbs l) hs h.own ax nx cx (vbs m) hx (by omega) q2 q3 (vbs_one _) hlen (by decide) h.fr.size ?_
  intro a' c' w' ho' hf' hg'
  refine k a' c' w' ⟨?_, ?_, h.then hf'⟩ hf'
  · rw [List.length_append, ← h.len]; simp at q1; omega
  · rw [vbs_app]; exact ho'
end
end Go.Proofs.YtahohmdfllgedaaGreat
