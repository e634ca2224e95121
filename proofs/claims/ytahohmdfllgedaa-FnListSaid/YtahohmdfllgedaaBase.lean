/- Plain facts on memory that all walks of this seat share: a frame ('outside these blocks nothing has turned'), rows of cells, byte slices that the program owns. No program in sight. -/
import Derived.WalkKit
import Derived.WalkSpells
import Derived.WalkLawsBesides
import Derived.Deep.QuietTactic
import Derived.BigQuiet
import Derived.Deep.RegionHeld3
import Derived.Lib.Hide
namespace Go.Proofs.Ytahohmdfllgedaa
open Go.RowKit

/-- Outside the blocks of 'bs' nothing that was there has turned. -/
structure Fr (bs : List Nat) (w w' : World) : Prop where
  os : w'.os = w.os
  tape : w'.tape = w.tape
  output : w'.output = w.output
  size : w.heap.size ≤ w'.heap.size
  blk : ∀ k, k < w.heap.size → k ∉ bs → w'.heap[k]? = w.heap[k]?

theorem Fr.refl (bs : List Nat) (w : World) : Fr bs w w := ⟨rfl, rfl, rfl, Nat.le_refl _, fun _ _ _ => rfl⟩

theorem Fr.trans {l bs : List Nat} {a b c : World} (h : Fr l a b) (k : Fr bs b c) (hs : ∀ i, i ∈ bs → i < a.heap.size → i ∈ l) : Fr l a c :=
  ⟨k.os.trans h.os, k.tape.trans h.tape, k.output.trans h.output, Nat.le_trans h.size k.size,
    fun i hi hn => (k.blk i (Nat.lt_of_lt_of_le hi h.size) (fun e => hn (hs i e hi))).trans (h.blk i hi hn)⟩

theorem Fr.then {l : List Nat} {a b c : World} (h : Fr l a b) (k : Fr [] b c) : Fr l a c := h.trans k (fun _ h => by cases h)

theorem Fr.mono {l bs : List Nat} {a b : World} (h : Fr l a b) (hs : ∀ i, i ∈ l → i < a.heap.size → i ∈ bs) : Fr bs a b :=
  ⟨h.os, h.tape, h.output, h.size, fun i hi hn => h.blk i hi (fun e => hn (hs i e hi))⟩

theorem Fr.drew {bs : List Nat} {a b : World} (h : Fr bs a b) : Fr bs a b.drew := ⟨h.os, h.tape, h.output, h.size, h.blk⟩

theorem drewN_heap (w : World) (n : Nat) : (w.drewN n).heap = w.heap := rfl

theorem Fr.drewN {bs : List Nat} {a b : World} (h : Fr bs a b) (n : Nat) : Fr bs a (b.drewN n) := ⟨h.os, h.tape, h.output, h.size, h.blk⟩

theorem Fr.alloc {bs : List Nat} {a b : World} (h : Fr bs a b) (o : Obj) : Fr bs a (b.alloc o) :=
  ⟨h.os, h.tape, h.output, by simp; exact Nat.le_succ_of_le h.size, fun i hi hn => (Below.heap_alloc _ _ _ (Nat.lt_of_lt_of_le hi h.size)).trans (h.blk i hi hn)⟩

theorem Fr.setCell {bs : List Nat} {a b : World} (h : Fr bs a b) {p : Addr} (hp : p.block ∈ bs ∨ a.heap.size ≤ p.block) (u : Value) : Fr bs a (b.setCell p u) :=
  ⟨h.os, h.tape, h.output, by simp [World.setCell]; exact h.size, fun i hi hn =>
    (Below.heap_setCell _ _ _ _ (fun e => by rcases hp with hp | hp; exact hn (e ▸ hp); omega)).trans (h.blk i hi hn)⟩

theorem Fr.grown {bs : List Nat} {a b c : World} {row : Option Nat} (h : Fr bs a b) (hg : b.grownBy c row) (hr : ∀ k, row = some k → k ∈ bs ∨ a.heap.size ≤ k) : Fr bs a c :=
  ⟨hg.os.trans h.os, hg.tape.trans h.tape, hg.output.trans h.output, Nat.le_trans h.size hg.size, fun i hi hn =>
    (hg.block i (Nat.lt_of_lt_of_le hi h.size) (fun e => by rcases hr i e.symm with h' | h'; exact hn h'; omega)).trans (h.blk i hi hn)⟩

theorem Fr.below {a b : World} (h : Fr [] a b) : Below a.heap.size a b := ⟨h.os, h.tape, h.output, h.size, fun k hk => h.blk k hk (by simp)⟩

theorem lt_heap {w : World} {k : Nat} {o : Obj} (h : w.heap[k]? = some o) : k < w.heap.size := (Array.getElem?_eq_some_iff.1 h).1

theorem Fr.get {bs : List Nat} {a b : World} {k : Nat} {o : Obj} (h : Fr bs a b) (hk : a.heap[k]? = some o) (hn : k ∉ bs) : b.heap[k]? = some o :=
  (h.blk k (lt_heap hk) hn).trans hk

theorem Fr.cell {bs : List Nat} {a b : World} {p : Addr} {v : Value} (h : Fr bs a b) (hk : a.cell? p = some v) (hn : p.block ∉ bs) : b.cell? p = some v := by
  have hlt := World.block_lt_of_cell? a p hk
  rw [World.cell?_of_block (w := a) (h.blk _ hlt hn)]
  exact hk

/-! ### a block that is known whole -/
theorem blk_cell {w : World} {b : Nat} {cs : Array Value} {t : TypeId} {fz : Nat × Nat} (h : w.heap[b]? = some (.cells cs t fz)) (i : Nat) : w.cell? ⟨b, i, none⟩ = cs[i]? := by
  simp [World.cell?, h]
theorem blk_free {w : World} {b : Nat} {cs : Array Value} {t : TypeId} (h : w.heap[b]? = some (.cells cs t (0, 0))) (i : Nat) : w.frozen? ⟨b, i, none⟩ = false := by
  simp [World.frozen?, h]
theorem blk_set {w : World} {b : Nat} {cs : Array Value} {t : TypeId} {fz : Nat × Nat} (h : w.heap[b]? = some (.cells cs t fz)) (i : Nat) (u : Value) :
    (w.setCell ⟨b, i, none⟩ u).heap[b]? = some (.cells (cs.setIfInBounds i u) t fz) := by
  simp only [World.setCell, Array.getElem?_modify, if_true, h]; rfl
theorem blk_set_other {w : World} {b g : Nat} {o : Option Obj} (h : w.heap[b]? = o) {i : Nat} {u : Value} (hne : b ≠ g) : (w.setCell ⟨g, i, none⟩ u).heap[b]? = o := by
  rw [Below.heap_setCell _ _ _ _ hne]; exact h
theorem blk_alloc {w : World} {b : Nat} {o x : Obj} (h : w.heap[b]? = some o) : (w.alloc x).heap[b]? = some o := by
  rw [Below.heap_alloc _ _ _ (lt_heap h)]; exact h
theorem blk_new (w : World) (o : Obj) : (w.alloc o).heap[w.heap.size]? = some o := by
  exact heap_alloc_new w o

/-! ### a row of cells somewhere in a block -/
/-- The cells from (g, o) on hold vs. -/
def Cells (w : World) (g o : Nat) (vs : List Value) : Prop :=
  ∀ i v, vs[i]? = some v → w.cell? ⟨g, o + i, none⟩ = some v

theorem Cells.cell {w : World} {g o : Nat} {vs : List Value} (h : Cells w g o vs) {i : Nat} {v : Value} (hi : vs[i]? = some v) : w.cell? ⟨g, o + i, none⟩ = some v := h i v hi
theorem Cells.fr {bs : List Nat} {w w' : World} {g o : Nat} {vs : List Value} (h : Cells w g o vs) (f : Fr bs w w') (hn : g ∉ bs) : Cells w' g o vs :=
  fun i v hi => f.cell (h i v hi) hn
theorem Cells.drop {w : World} {g o : Nat} {vs : List Value} (h : Cells w g o vs) (k : Nat) : Cells w g (o + k) (vs.drop k) := by
  intro i v hi
  rw [List.getElem?_drop] at hi
  rw [Nat.add_assoc]; exact h _ _ hi
theorem Cells.take {w : World} {g o : Nat} {vs : List Value} (h : Cells w g o vs) (k : Nat) : Cells w g o (vs.take k) := by
  intro i v hi
  rw [List.getElem?_take] at hi
  split at hi
  · exact h _ _ hi
  · cases hi

theorem add_block (x : Addr) (i : Nat) : (x.add i).block = x.block := by unfold Addr.add; split <;> rfl

/-- A slice value of one-cell elements that reads vs: nil, or somewhere in a block. -/
def Sl (w : World) (v : Value) (vs : List Value) : Prop :=
  (v = .slice none 0 0 ∧ vs = []) ∨
  ∃ x c, v = .slice (some x) vs.length c ∧ vs.length ≤ c ∧ c ≤ maxLen ∧ ∀ i u, vs[i]? = some u → w.cell? (x.add i) = some u

theorem Sl.fr {bs : List Nat} {w w' : World} {v : Value} {vs : List Value} (h : Sl w v vs) (f : Fr bs w w') (hn : ∀ g, v.ownBlock = some g → g ∉ bs) : Sl w' v vs := by
  rcases h with h | ⟨x, c, rfl, h1, h2, h3⟩
  · exact .inl h
  · exact .inr ⟨x, c, rfl, h1, h2, fun i u hi => f.cell (h3 i u hi) (by rw [add_block]; exact hn _ rfl)⟩
/-- Where something is read, the slice leads into a row of cells. -/
theorem sl_some {w : World} {v : Value} {vs : List Value} (h : Sl w v vs) (hn : 0 < vs.length) :
    ∃ g o c, v = .slice (some ⟨g, o, none⟩) vs.length c ∧ vs.length ≤ c ∧ c ≤ maxLen ∧ Cells w g o vs := by
  rcases h with ⟨_, rfl⟩ | ⟨x, c, rfl, h1, h2, h3⟩
  · simp at hn
  · have h0 := h3 0 (vs[0]) (List.getElem?_eq_getElem hn)
    rw [Addr.add, if_pos rfl] at h0
    obtain ⟨g, o, spot⟩ := x
    have hs : spot = none := World.cell?_spot h0
    subst hs
    exact ⟨g, o, c, rfl, h1, h2, fun i u hi => by have := h3 i u hi; rwa [Addr.add_lit] at this⟩
theorem sl_mk {w : World} {g o c : Nat} {vs : List Value} {n : Nat} (hn : n = vs.length) (h1 : n ≤ c) (h2 : c ≤ maxLen) (h : Cells w g o vs) : Sl w (.slice (some ⟨g, o, none⟩) n c) vs := by
  subst hn
  exact .inr ⟨⟨g, o, none⟩, c, rfl, h1, h2, fun i u hi => by rw [Addr.add_lit]; exact h i u hi⟩

/-- A byte as a value. -/
abbrev vb (x : UInt8) : Value := .int .u8 ((x.toNat : Nat) : Int)
abbrev vbs (l : List UInt8) : List Value := l.map vb

theorem vbs_one (l : List UInt8) : ∀ u ∈ vbs l, u.oneCell' = true := by
  intro u hu; obtain ⟨_, _, rfl⟩ := List.mem_map.1 hu; rfl

/-- What the program owns as a row of one-cell elements can be read. -/
theorem own_sl {w : World} {base e : Nat} {v : Value} {vs : List Value} {n : Nat} (h : w.ownsRow base e 1 v n vs) : Sl w v vs := by
  have hl := h.1
  rcases h.2 with ⟨rfl, rfl⟩ | ⟨g, cap, cur, rfl, hb, hg, hnc, hcm, hcs, htake⟩
  · exact .inl ⟨rfl, List.eq_nil_of_length_eq_zero (by omega)⟩
  · have hn : vs.length = n := by omega
    subst hn
    refine sl_mk rfl hnc hcm (fun i v hi => ?_)
    rw [← htake, List.getElem?_take] at hi
    rw [blk_cell hg]
    split at hi
    · simpa using hi
    · cases hi

theorem own_len {w : World} {base e : Nat} {v : Value} {vs : List Value} {n : Nat} (h : w.ownsRow base e 1 v n vs) : vs.length = n := by have := h.1; omega

/-- What is owned stays so while other blocks turn. -/
theorem own_fr {w w' : World} {base e sz : Nat} {v : Value} {vs : List Value} {n : Nat} {bs : List Nat} (h : w.ownsRow base e sz v n vs) (f : Fr bs w w') (hn : ∀ g, v.ownBlock = some g → g ∉ bs) :
    w'.ownsRow base e sz v n vs := by
  refine ⟨h.1, ?_⟩
  rcases h.2 with hh | ⟨g, cap, cur, rfl, hb, hg, rest⟩
  · exact .inl hh
  · exact .inr ⟨g, cap, cur, rfl, hb, f.get hg (hn g rfl), rest⟩

theorem own_base {w : World} {base base' e sz : Nat} {v : Value} {vs : List Value} {n : Nat} (h : w.ownsRow base e sz v n vs) (hb : base' ≤ base) : w.ownsRow base' e sz v n vs := by
  refine ⟨h.1, ?_⟩
  rcases h.2 with hh | ⟨g, cap, cur, rfl, hb', r⟩
  · exact .inl hh
  · exact .inr ⟨g, cap, cur, rfl, Nat.le_trans hb hb', r⟩

theorem own_ge {w : World} {base e sz : Nat} {v : Value} {vs : List Value} {n : Nat} (h : w.ownsRow base e sz v n vs) {g : Nat} (hg : v.ownBlock = some g) : base ≤ g := (h.lt g hg).1

/-! ### append to a row that the program owns -/
/-- What the walk must know of a slice type t with elements e. -/
structure SliceT (P : Program) (t e : TypeId) (z : Value) (size bytes : Nat) : Prop where
  und : P.underlying t = some (.slice e)
  info : (P.info? e).map (fun i => (i.zero, i.size, i.bytes)) = some (some z, size, bytes)
  zs : z.cells.size = size
  pos : 0 < size

theorem grown_fr {w w' : World} {row : Option Nat} (h : w.grownBy w' row) : Fr row.toList w w' :=
  ⟨h.os, h.tape, h.output, h.size, fun k hk hn => h.block k hk (fun e => hn (by simp [← e]))⟩

theorem own_slice {w : World} {base e sz : Nat} {v : Value} {vs : List Value} {n : Nat} (h : w.ownsRow base e sz v n vs) : ∃ a c, v = .slice a n c := by
  rcases h.2 with ⟨rfl, rfl⟩ | ⟨g, cap, cur, rfl, _⟩
  · exact ⟨none, 0, rfl⟩
  · exact ⟨_, cap, rfl⟩

theorem run_app {P : Program} {t e : TypeId} {z : Value} {size bytes : Nat} (S : SliceT P t e z size bytes) (ty : TypeId) (w : World) (base : Nat)
    (v : Value) (n : Nat) (xs : List Value) (hown : w.ownsRow base e size v n xs)
    (ao : Option Addr) (m c : Nat) (news : List Value) (hl : news.length = m * size) (hnone : ao = none → m = 0 ∧ c = 0)
    (hnews : ∀ ad, ao = some ad → ∀ j u, news[j]? = some u → w.cell? (ad.add j) = some u) (h1 : ∀ u ∈ news, u.oneCell' = true)
    (hlen : n + m ≤ 4398046511104) (hb : bytes ≤ 32) (hbase : base ≤ w.heap.size) :
    ∃ v' w', (Builtin.append_ #[t, t] ty #[v, .slice ao m c]).run P w = .ok v' w' ∧ w'.ownsRow base e size v' (n + m) (xs ++ news) ∧ Fr v.ownBlock.toList w w' ∧
      (∀ g, v'.ownBlock = some g → v.ownBlock = some g ∨ w.heap.size ≤ g) := by
  obtain ⟨i, hi, hz, hs, hby⟩ := info_parts S.info
  cases ao with
  | none =>
    obtain ⟨rfl, rfl⟩ := hnone rfl
    have hnews' : news = [] := List.eq_nil_of_length_eq_zero (by simpa using hl)
    subst hnews'
    exact ⟨v, w, run_append_owned_none (P := P) w base t ty e i size S.und hi v n xs hown, by simpa using hown, Fr.refl _ _, fun g hg => .inl hg⟩
  | some ad =>
    have hm : n + m ≤ maxLen := by unfold maxLen; omega
    have hbb : (n + m) * bytes ≤ 140737488355328 := Nat.le_trans (Nat.mul_le_mul hlen hb) (by decide)
    obtain ⟨v', w', hr, ho, hg, _⟩ := run_append_own (P := P) w base t ty e i z size bytes S.und hi hz hs hby S.zs S.pos v n xs hown ad m c news hl (hnews ad rfl) h1 hm hbb hbase
    refine ⟨v', w', hr, ho, grown_fr hg, fun g hgv => ?_⟩
    have hdet : ∀ v'' w'', (Builtin.append_ #[t, t] ty #[v, .slice (some ad) m c]).run P w = .ok v'' w'' → v'' = v' := by
      intro v'' w'' h2; rw [hr] at h2; cases h2; rfl
    rcases hown.2 with ⟨rfl, rfl⟩ | ⟨b, cap, cur, rfl, hbg, hhb, hnc, hcm, hcs, htake⟩
    · have hx : xs = [] := List.eq_nil_of_length_eq_zero (by simpa using hown.1)
      subst hx
      obtain ⟨v2, w2, hr2, ho2, _, _⟩ := run_append_own (P := P) w w.heap.size t ty e i z size bytes S.und hi hz hs hby S.zs S.pos _ 0 [] (World.ownsRow_nil w _ e size) ad m c news hl (hnews ad rfl) h1 hm hbb (Nat.le_refl _)
      obtain rfl := hdet _ _ hr2
      exact .inr (ho2.lt g hgv).1
    · by_cases hroom : n + m ≤ cap
      · have hfit : n * i.size + news.length ≤ cur.size := by rw [hl, hcs, hs, ← Nat.add_mul]; exact Nat.mul_le_mul_right _ hroom
        have h2 := run_append_room (P := P) w t ty e i S.und hi b n cap cur hhb ad m c news (by rw [hs]; exact hl) (hnews ad rfl) h1 hroom hfit
        obtain rfl := hdet _ _ h2
        exact .inl (by simpa [Value.ownBlock] using hgv)
      · have holds : ∀ j u, xs[j]? = some u → w.cell? ((⟨b, 0, none⟩ : Addr).add j) = some u := hown.cells (g := b) rfl
        have h2 := run_append_grow (P := P) w t ty e i z S.und hi hz ⟨b, 0, none⟩ n cap xs (by rw [hs]; exact hown.1) holds ad m c news (by rw [hs]; exact hl) (hnews ad rfl) (by omega) (by omega) (growslice_fits (by omega) (by rw [hby]; exact hbb))
        obtain rfl := hdet _ _ h2
        right; simp [Value.ownBlock] at hgv; omega

theorem wpList_app {P : Program} {t e : TypeId} {z : Value} {size bytes : Nat} (S : SliceT P t e z size bytes) (w : World) {ops : Array Oper} {rest : List Oper} {o : Oper} {a : Act} {Q : Exit → Act → World → Prop}
    (hgd : o.guard = none) (s x : Operand) (ho : o.op = .call { callee := .builtin .append, args := #[s, x], argTypes := #[t, t] }) (base : Nat)
    (v : Value) (n : Nat) (xs : List Value) (hs : a.eval s = v) (hown : w.ownsRow base e size v n xs)
    (ao : Option Addr) (m c : Nat) (news : List Value) (hx : a.eval x = .slice ao m c) (hl : news.length = m * size) (hnone : ao = none → m = 0 ∧ c = 0)
    (hnews : ∀ ad, ao = some ad → ∀ j u, news[j]? = some u → w.cell? (ad.add j) = some u) (h1 : ∀ u ∈ news, u.oneCell' = true)
    (hlen : n + m ≤ 4398046511104) (hb : bytes ≤ 32) (hbase : base ≤ w.heap.size)
    (h : ∀ a' c' w', w'.ownsRow base e size (.slice a' (n + m) c') (n + m) (xs ++ news) → Fr v.ownBlock.toList w w' → (∀ g, (Value.slice a' (n + m) c').ownBlock = some g → v.ownBlock = some g ∨ w.heap.size ≤ g) →
      wpList P ops Q rest (a.put o.dst (.slice a' (n + m) c')) w') :
    wpList P ops Q (o :: rest) a w := by
  refine wpList_plain hgd fun K hK => ?_
  obtain ⟨v', w', hr, h2, h3, h4⟩ := run_app (P := P) S o.type w base v n xs hown ao m c news hl hnone hnews h1 hlen hb hbase
  unfold Oper.wp execOp
  simp only [ho, resolve, invoke, builtin, Sem.run_bind, Sem.run_pure, Result.andThen_ok, List.map_toArray, List.map_cons, List.map_nil, hs, hx, hr]
  obtain ⟨a', c', rfl⟩ := own_slice h2
  exact hK _ _ (h a' c' w' h2 h3 h4)

/-- Behind an append to a row of the call's own: nothing old has turned. -/
theorem Fr.app {bs : List Nat} {a b c w : World} {base e sz : Nat} {v : Value} {vs : List Value} {n : Nat} (h : Fr bs a b) (ho : w.ownsRow base e sz v n vs) (hb : a.heap.size ≤ base) (k : Fr v.ownBlock.toList b c) : Fr bs a c :=
  h.trans k (fun i hi hlt => by simp at hi; have := own_ge ho hi; omega)

/-- The one cell of 'append(xs, x)''s new block. -/
theorem news_one {w : World} {n : Nat} (hn : n = w.heap.size) (x : Value) (t : TypeId) :
    ∀ ad, some (⟨n, 0, none⟩ : Addr) = some ad → ∀ j u, [x][j]? = some u → (w.alloc (.cells #[x] t)).cell? (ad.add j) = some u := by
  intro ad had j u hu
  obtain rfl := Option.some.inj had
  subst hn
  cases j with
  | zero => simp at hu; subst hu; simp [Addr.add]
  | succ j => simp at hu

/-- The cells of a slice that is appended. -/
theorem sl_news {w : World} {v : Value} {vs : List Value} (h : Sl w v vs) : ∃ ao c, v = .slice ao vs.length c ∧ (ao = none → vs.length = 0 ∧ c = 0) ∧
    (∀ ad, ao = some ad → ∀ j u, vs[j]? = some u → w.cell? (ad.add j) = some u) := by
  rcases h with ⟨rfl, rfl⟩ | ⟨x, c, rfl, h1, h2, h3⟩
  · exact ⟨none, 0, rfl, fun _ => ⟨rfl, rfl⟩, fun ad had => by cases had⟩
  · exact ⟨_, c, rfl, (fun h => by cases h), fun ad had j u hu => by obtain rfl := Option.some.inj had; exact h3 j u hu⟩

end Go.Proofs.Ytahohmdfllgedaa
