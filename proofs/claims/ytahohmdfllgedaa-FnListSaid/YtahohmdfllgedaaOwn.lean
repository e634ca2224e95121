/- Rows of bytes in the making: owned since an earlier world, appended to. -/
import Derived.Test.YtahohmdfllgedaaCalls
namespace Go.Proofs.Ytahohmdfllgedaa
open Go.RowKit

/-- A row of n bytes l that was made since w0; nothing older has turned. -/
structure OwnR (w0 w : World) (a : Option Addr) (n c : Nat) (l : List UInt8) : Prop where
  len : n = l.length
  own : w.ownsRow w0.heap.size 5 1 (.slice a n c) n (vbs l)
  fr : Fr [] w0 w

section
variable {w0 w w' : World} {a : Option Addr} {n c : Nat} {l m : List UInt8}
theorem OwnR.nil (f : Fr [] w0 w) : OwnR w0 w none 0 0 [] := ⟨rfl, World.ownsRow_nil _ _ _ _, f⟩
theorem OwnR.call (h : OwnR w0 w a n c l) (f : Fr [] w w') : OwnR w0 w' a n c l := ⟨h.len, own_fr h.own f (by simp), h.fr.then f⟩
/-- Behind a call that made l. -/
theorem OwnR.made (f : Fr [] w0 w) (o : w'.ownsRow w.heap.size 5 1 (.slice a l.length c) l.length (vbs l)) (g : Fr [] w w') : OwnR w0 w' a l.length c l := ⟨rfl, own_base o f.size, f.then g⟩
theorem OwnR.sl (h : OwnR w0 w a n c l) : Sl w (.slice a n c) (vbs l) := own_sl h.own
theorem OwnR.inj (h : OwnR w0 w a n c l) : ∃ c', c = c' ∧ n = l.length := ⟨c, rfl, h.len⟩
theorem OwnR.base {w1 : World} (h : OwnR w1 w a n c l) (f : Fr [] w0 w1) : OwnR w0 w a n c l := ⟨h.len, own_base h.own f.size, f.then h.fr⟩
theorem OwnR.lt (h : OwnR w0 w a n c l) {g : Nat} (hg : (Value.slice a n c).ownBlock = some g) : w0.heap.size ≤ g ∧ g < w.heap.size := h.own.lt g hg
/-- What the call appends to it turns nothing that was there at w0. -/
theorem OwnR.then (h : OwnR w0 w a n c l) (f : Fr (Value.slice a n c).ownBlock.toList w w') : Fr [] w0 w' := h.fr.app h.own (Nat.le_refl _) f

theorem sl_news3 {a1 : Option Addr} {n1 c1 : Nat} {vs : List Value} (h : Sl w (.slice a1 n1 c1) vs) :
    n1 = vs.length ∧ (a1 = none → n1 = 0 ∧ c1 = 0) ∧ ∀ ad, a1 = some ad → ∀ j u, vs[j]? = some u → w.cell? (ad.add j) = some u := by
  obtain ⟨ao, c', hv, h1, h2⟩ := sl_news h
  simp only [Value.slice.injEq] at hv
  obtain ⟨rfl, rfl, rfl⟩ := hv
  exact ⟨rfl, h1, h2⟩

theorem OwnR.app_list {ops : Array Oper} {rest : List Oper} {o : Oper} {at_ : Act} {Q : Exit → Act → World → Prop} {ax : Option Addr} {nx cx : Nat} (h : OwnR w0 w a n c l) (hm : Sl w (.slice ax nx cx) (vbs m))
    (hgd : o.guard = none) (s x : Operand) (ho : o.op = .call { callee := .builtin .append, args := #[s, x], argTypes := #[23, 23] }) (hs : at_.eval s = .slice a n c) (hx : at_.eval x = .slice ax nx cx)
    (hlen : n + nx ≤ 1099511627776)
    (k : ∀ a' c' w', OwnR w0 w' a' (n + nx) c' (l ++ m) → Fr (Value.slice a n c).ownBlock.toList w w' →
      wpList Try.prog ops Q rest (at_.put o.dst (.slice a' (n + nx) c')) w') :
    wpList Try.prog ops Q (o :: rest) at_ w := by
  obtain ⟨q1, q2, q3⟩ := sl_news3 hm
  refine wpList_app2 sliceB _ hgd s x ho w0.heap.size _ n (vbs l) hs h.own ax nx cx (vbs m) hx (by omega) q2 q3 (vbs_one _) hlen (by decide) h.fr.size ?_
  intro a' c' w' ho' hf' hg'
  refine k a' c' w' ⟨?_, ?_, h.then hf'⟩ hf'
  · rw [List.length_append, ← h.len]; simp at q1; omega
  · rw [vbs_app]; exact ho'

theorem OwnR.app_step {ops : Array Oper} {o : Oper} {at_ : Act} {K : Act → World → Prop} {Q : Exit → Act → World → Prop} {E : Prop} {ax : Option Addr} {nx cx : Nat} (h : OwnR w0 w a n c l) (hm : Sl w (.slice ax nx cx) (vbs m))
    (hgd : o.guard = none) (s x : Operand) (ho : o.op = .call { callee := .builtin .append, args := #[s, x], argTypes := #[23, 23] }) (hs : at_.eval s = .slice a n c) (hx : at_.eval x = .slice ax nx cx)
    (hlen : n + nx ≤ 1099511627776)
    (k : ∀ a' c' w', OwnR w0 w' a' (n + nx) c' (l ++ m) → Fr (Value.slice a n c).ownBlock.toList w w' →
      K (at_.put o.dst (.slice a' (n + nx) c')) w') :
    if Region.wanted o (yielded ops at_.tmps) = true then Oper.wp Try.prog o at_ w K Q else E := by
  obtain ⟨q1, q2, q3⟩ := sl_news3 hm
  refine step_app2 sliceB _ hgd s x ho w0.heap.size _ n (vbs l) hs h.own ax nx cx (vbs m) hx (by omega) q2 q3 (vbs_one _) hlen (by decide) h.fr.size ?_
  intro a' c' w' ho' hf' hg'
  refine k a' c' w' ⟨?_, ?_, h.then hf'⟩ hf'
  · rw [List.length_append, ← h.len]; simp at q1; omega
  · rw [vbs_app]; exact ho'
end
end Go.Proofs.Ytahohmdfllgedaa
