/- append once more: elements of up to 64 bytes; and at a step of a region that draws its order. -/
import Derived.Test.YtahohmdfllgedaaBuf
import Derived.Deep.AppendLies
import Derived.Deep.RegionLaw
import Derived.Deep.RegionHeld3
import Derived.Deep.DrawnRows
namespace Go.Proofs.Ytahohmdfllgedaa
open Go.RowKit

theorem run_app2 {P : Program} {t e : TypeId} {z : Value} {size bytes : Nat} (S : SliceT P t e z size bytes) (ty : TypeId) (w : World) (base : Nat)
    (v : Value) (n : Nat) (xs : List Value) (hown : w.ownsRow base e size v n xs)
    (ao : Option Addr) (m c : Nat) (news : List Value) (hl : news.length = m * size) (hnone : ao = none → m = 0 ∧ c = 0)
    (hnews : ∀ ad, ao = some ad → ∀ j u, news[j]? = some u → w.cell? (ad.add j) = some u) (h1 : ∀ u ∈ news, u.oneCell' = true)
    (hlen : n + m ≤ 1099511627776) (hb : bytes ≤ 64) (hbase : base ≤ w.heap.size) :
    ∃ v' w', (Builtin.append_ #[t, t] ty #[v, .slice ao m c]).run P w = .ok v' w' ∧ w'.ownsRow base e size v' (n + m) (xs ++ news) ∧ Fr v.ownBlock.toList w w' ∧
      (∀ g, v'.ownBlock = some g → v.ownBlock = some g ∨ w.heap.size ≤ g) := by
  obtain ⟨i, hi, hz, hs, hby⟩ := info_parts S.info
  cases ao with
  | none =>
    obtain ⟨rfl, rfl⟩ := hnone rfl
    have hnews' : news = [] := List.eq_nil_of_length_eq_zero (by simpa using hl)
    subst hnews'
    exact ⟨v, w, run_append_owned_none (P := P) w base t ty e i size S.und hi v n xs hown, by simpa using hown, Fr.refl _ _, fun g hg => .inl hg⟩
  | some ad =>
    have hm : n + m ≤ maxLen := by unfold maxLen; omega
    have hbb : (n + m) * bytes ≤ 140737488355328 := Nat.le_trans (Nat.mul_le_mul hlen hb) (by decide)
    obtain ⟨v', w', hr, ho, hg, _⟩ := run_append_own (P := P) w base t ty e i z size bytes S.und hi hz hs hby S.zs S.pos v n xs hown ad m c news hl (hnews ad rfl) h1 hm hbb hbase
    refine ⟨v', w', hr, ho, grown_fr hg, fun g hgv => ?_⟩
    have hdet : ∀ v'' w'', (Builtin.append_ #[t, t] ty #[v, .slice (some ad) m c]).run P w = .ok v'' w'' → v'' = v' := by
      intro v'' w'' h2; rw [hr] at h2; cases h2; rfl
    rcases hown.2 with ⟨rfl, rfl⟩ | ⟨b, cap, cur, rfl, hbg, hhb, hnc, hcm, hcs, htake⟩
    · have hx : xs = [] := List.eq_nil_of_length_eq_zero (by simpa using hown.1)
      subst hx
      obtain ⟨v2, w2, hr2, ho2, _, _⟩ := run_append_own (P := P) w w.heap.size t ty e i z size bytes S.und hi hz hs hby S.zs S.pos _ 0 [] (World.ownsRow_nil w _ e size) ad m c news hl (hnews ad rfl) h1 hm hbb (Nat.le_refl _)
      obtain rfl := hdet _ _ hr2
      exact .inr (ho2.lt g hgv).1
    · by_cases hroom : n + m ≤ cap
      · have hfit : n * i.size + news.length ≤ cur.size := by rw [hl, hcs, hs, ← Nat.add_mul]; exact Nat.mul_le_mul_right _ hroom
        have h2 := run_append_room (P := P) w t ty e i S.und hi b n cap cur hhb ad m c news (by rw [hs]; exact hl) (hnews ad rfl) h1 hroom hfit
        obtain rfl := hdet _ _ h2
        exact .inl (by simpa [Value.ownBlock] using hgv)
      · have holds : ∀ j u, xs[j]? = some u → w.cell? ((⟨b, 0, none⟩ : Addr).add j) = some u := hown.cells (g := b) rfl
        have h2 := run_append_grow (P := P) w t ty e i z S.und hi hz ⟨b, 0, none⟩ n cap xs (by rw [hs]; exact hown.1) holds ad m c news (by rw [hs]; exact hl) (hnews ad rfl) (by omega) (by omega) (growslice_fits (by omega) (by rw [hby]; exact hbb))
        obtain rfl := hdet _ _ h2
        right; simp [Value.ownBlock] at hgv; omega

theorem wpList_app2 {P : Program} {t e : TypeId} {z : Value} {size bytes : Nat} (S : SliceT P t e z size bytes) (w : World) {ops : Array Oper} {rest : List Oper} {o : Oper} {a : Act} {Q : Exit → Act → World → Prop}
    (hgd : o.guard = none) (s x : Operand) (ho : o.op = .call { callee := .builtin .append, args := #[s, x], argTypes := #[t, t] }) (base : Nat)
    (v : Value) (n : Nat) (xs : List Value) (hs : a.eval s = v) (hown : w.ownsRow base e size v n xs)
    (ao : Option Addr) (m c : Nat) (news : List Value) (hx : a.eval x = .slice ao m c) (hl : news.length = m * size) (hnone : ao = none → m = 0 ∧ c = 0)
    (hnews : ∀ ad, ao = some ad → ∀ j u, news[j]? = some u → w.cell? (ad.add j) = some u) (h1 : ∀ u ∈ news, u.oneCell' = true)
    (hlen : n + m ≤ 1099511627776) (hb : bytes ≤ 64) (hbase : base ≤ w.heap.size)
    (h : ∀ a' c' w', w'.ownsRow base e size (.slice a' (n + m) c') (n + m) (xs ++ news) → Fr v.ownBlock.toList w w' → (∀ g, (Value.slice a' (n + m) c').ownBlock = some g → v.ownBlock = some g ∨ w.heap.size ≤ g) →
      wpList P ops Q rest (a.put o.dst (.slice a' (n + m) c')) w') :
    wpList P ops Q (o :: rest) a w := by
  refine wpList_plain hgd fun K hK => ?_
  obtain ⟨v', w', hr, h2, h3, h4⟩ := run_app2 (P := P) S o.type w base v n xs hown ao m c news hl hnone hnews h1 hlen hb hbase
  unfold Oper.wp execOp
  simp only [ho, resolve, invoke, builtin, Sem.run_bind, Sem.run_pure, Result.andThen_ok, List.map_toArray, List.map_cons, List.map_nil, hs, hx, hr]
  obtain ⟨a', c', rfl⟩ := own_slice h2
  exact hK _ _ (h a' c' w' h2 h3 h4)

theorem step_app2 {P : Program} {t e : TypeId} {z : Value} {size bytes : Nat} (S : SliceT P t e z size bytes) (w : World) {ops : Array Oper} {o : Oper} {a : Act} {K : Act → World → Prop} {Q : Exit → Act → World → Prop} {E : Prop}
    (hgd : o.guard = none) (s x : Operand) (ho : o.op = .call { callee := .builtin .append, args := #[s, x], argTypes := #[t, t] }) (base : Nat)
    (v : Value) (n : Nat) (xs : List Value) (hs : a.eval s = v) (hown : w.ownsRow base e size v n xs)
    (ao : Option Addr) (m c : Nat) (news : List Value) (hx : a.eval x = .slice ao m c) (hl : news.length = m * size) (hnone : ao = none → m = 0 ∧ c = 0)
    (hnews : ∀ ad, ao = some ad → ∀ j u, news[j]? = some u → w.cell? (ad.add j) = some u) (h1 : ∀ u ∈ news, u.oneCell' = true)
    (hlen : n + m ≤ 1099511627776) (hb : bytes ≤ 64) (hbase : base ≤ w.heap.size)
    (h : ∀ a' c' w', w'.ownsRow base e size (.slice a' (n + m) c') (n + m) (xs ++ news) → Fr v.ownBlock.toList w w' → (∀ g, (Value.slice a' (n + m) c').ownBlock = some g → v.ownBlock = some g ∨ w.heap.size ≤ g) →
      K (a.put o.dst (.slice a' (n + m) c')) w') :
    if Region.wanted o (yielded ops a.tmps) = true then Oper.wp P o a w K Q else E := by
  have hw : Region.wanted o (yielded ops a.tmps) = true := by simp [Region.wanted, hgd]
  rw [if_pos hw]
  obtain ⟨v', w', hr, h2, h3, h4⟩ := run_app2 (P := P) S o.type w base v n xs hown ao m c news hl hnone hnews h1 hlen hb hbase
  unfold Oper.wp execOp
  simp only [ho, resolve, invoke, builtin, Sem.run_bind, Sem.run_pure, Result.andThen_ok, List.map_toArray, List.map_cons, List.map_nil, hs, hx, hr]
  obtain ⟨a', c', rfl⟩ := own_slice h2
  exact h a' c' w' h2 h3 h4


/-- The cells of a block that is known whole. -/
theorem news_blk {w : World} {b : Nat} {cs : Array Value} {t : TypeId} {fz : Nat × Nat} (h : w.heap[b]? = some (.cells cs t fz)) :
    ∀ ad, some (⟨b, 0, none⟩ : Addr) = some ad → ∀ j u, cs.toList[j]? = some u → w.cell? (ad.add j) = some u := by
  intro ad had j u hu
  obtain rfl := Option.some.inj had
  rw [Addr.add_lit, Nat.zero_add, blk_cell h]
  simpa using hu

end Go.Proofs.Ytahohmdfllgedaa
