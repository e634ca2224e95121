/- Plain facts on memory that all walks of this seat share: a frame ('outside these blocks nothing has turned'), rows of cells, byte slices that the program owns. No program in sight.
What came in, as plain data: call frame instructions, frames, common entries; how the memory at the start (W) holds them.
The size tests of the statements about call frame information (zzFits1 .. zzFits6): each returns a bool and writes nothing that was there.
The reference's tests on call frame information: callShape, callRight, moves, Right, apart. -/
import Derived.WalkKit
import Derived.WalkSpells
import Derived.WalkLawsBesides
import Derived.Deep.QuietTactic
import Derived.BigQuiet
import Derived.Deep.RegionHeld3
import Derived.Lib.Hide
import Derived.Test.YtahohmdfllgedaaGreatRows
set_option linter.unusedVariables false
set_option linter.unusedSimpArgs false
namespace Go.Proofs.YtahohmdfllgedaaGreat
open Go.RowKit

/-- Outside the blocks of 'bs' nothing that was there has turned. -/
structure Fr (bs : List Nat) (w w' : World) : Prop where
  os : w'.os = w.os
  tape : w'.tape = w.tape
  output : w'.output = w.output
  size : w.heap.size ≤ w'.heap.size
  blk : ∀ k, k < w.heap.size → k ∉ bs → w'.heap[k]? = w.heap[k]?

theorem Fr.refl (bs : List Nat) (w : World) : Fr bs w w := ⟨rfl, rfl, rfl, Nat.le_refl _, fun _ _ _ => rfl⟩

theorem Fr.trans {l bs : List Nat} {a b c : World} (h : Fr l a b) (k : Fr bs b c) (hs : ∀ i, i ∈ bs → i < a.heap.size → i ∈ l) : Fr l a c :=
  ⟨k.os.trans h.os, k.tape.trans h.tape, k.output.trans h.output, Nat.le_trans h.size k.size,
    fun i hi hn => (k.blk i (Nat.lt_of_lt_of_le hi h.size) (fun e => hn (hs i e hi))).trans (h.blk i hi hn)⟩

theorem Fr.then {l : List Nat} {a b c : World} (h : Fr l a b) (k : Fr [] b c) : Fr l a c := h.trans k (fun _ h => by cases h)

theorem Fr.mono {l bs : List Nat} {a b : World} (h : Fr l a b) (hs : ∀ i, i ∈ l → i < a.heap.size → i ∈ bs) : Fr bs a b :=
  ⟨h.os, h.tape, h.output, h.size, fun i hi hn => h.blk i hi (fun e => hn (hs i e hi))⟩

theorem Fr.drew {bs : List Nat} {a b : World} (h : Fr bs a b) : Fr bs a b.drew := ⟨h.os, h.tape, h.output, h.size, h.blk⟩

theorem drewN_heap (w : World) (n : Nat) : (w.drewN n).heap = w.heap := rfl

theorem Fr.drewN {bs : List Nat} {a b : World} (h : Fr bs a b) (n : Nat) : Fr bs a (b.drewN n) := ⟨h.os, h.tape, h.output, h.size, h.blk⟩

theorem Fr.alloc {bs : List Nat} {a b : World} (h : Fr bs a b) (o : Obj) : Fr bs a (b.alloc o) :=
  ⟨h.os, h.tape, h.output, by simp; exact Nat.le_succ_of_le h.size, fun i hi hn => (Below.heap_alloc _ _ _ (Nat.lt_of_lt_of_le hi h.size)).trans (h.blk i hi hn)⟩

theorem Fr.setCell {bs : List Nat} {a b : World} (h : Fr bs a b) {p : Addr} (hp : p.block ∈ bs ∨ a.heap.size ≤ p.block) (u : Value) : Fr bs a (b.setCell p u) :=
  ⟨h.os, h.tape, h.output, by simp [World.setCell]; exact h.size, fun i hi hn =>
    (Below.heap_setCell _ _ _ _ (fun e => by rcases hp with hp | hp; exact hn (e ▸ hp); omega)).trans (h.blk i hi hn)⟩

theorem Fr.grown {bs : List Nat} {a b c : World} {row : Option Nat} (h : Fr bs a b) (hg : b.grownBy c row) (hr : ∀ k, row = some k → k ∈ bs ∨ a.heap.size ≤ k) : Fr bs a c :=
  ⟨hg.os.trans h.os, hg.tape.trans h.tape, hg.output.trans h.output, Nat.le_trans h.size hg.size, fun i hi hn =>
    (hg.block i (Nat.lt_of_lt_of_le hi h.size) (fun e => by rcases hr i e.symm with h' | h'; exact hn h'; omega)).trans (h.blk i hi hn)⟩

theorem Fr.below {a b : World} (h : Fr [] a b) : Below a.heap.size a b := ⟨h.os, h.tape, h.output, h.size, fun k hk => h.blk k hk (by simp)⟩

theorem lt_heap {w : World} {k : Nat} {o : Obj} (h : w.heap[k]? = some o) : k < w.heap.size := (Array.getElem?_eq_some_iff.1 h).1

theorem Fr.get {bs : List Nat} {a b : World} {k : Nat} {o : Obj} (h : Fr bs a b) (hk : a.heap[k]? = some o) (hn : k ∉ bs) : b.heap[k]? = some o :=
  (h.blk k (lt_heap hk) hn).trans hk

theorem Fr.cell {bs : List Nat} {a b : World} {p : Addr} {v : Value} (h : Fr bs a b) (hk : a.cell? p = some v) (hn : p.block ∉ bs) : b.cell? p = some v := by
  have hlt := World.block_lt_of_cell? a p hk
  rw [World.cell?_of_block (w := a) (h.blk _ hlt hn)]
  exact hk

/-! ### a block that is known whole -/
theorem blk_cell {w : World} {b : Nat} {cs : Array Value} {t : TypeId} {fz : Nat × Nat} (h : w.heap[b]? = some (.cells cs t fz)) (i : Nat) : w.cell? ⟨b, i, none⟩ = cs[i]? := by
  simp [World.cell?, h]
theorem blk_free {w : World} {b : Nat} {cs : Array Value} {t : TypeId} (h : w.heap[b]? = some (.cells cs t (0, 0))) (i : Nat) : w.frozen? ⟨b, i, none⟩ = false := by
  simp [World.frozen?, h]
theorem blk_set {w : World} {b : Nat} {cs : Array Value} {t : TypeId} {fz : Nat × Nat} (h : w.heap[b]? = some (.cells cs t fz)) (i : Nat) (u : Value) :
    (w.setCell ⟨b, i, none⟩ u).heap[b]? = some (.cells (cs.setIfInBounds i u) t fz) := by
  simp only [World.setCell, Array.getElem?_modify, if_true, h]; rfl
theorem blk_set_other {w : World} {b g : Nat} {o : Option Obj} (h : w.heap[b]? = o) {i : Nat} {u : Value} (hne : b ≠ g) : (w.setCell ⟨g, i, none⟩ u).heap[b]? = o := by
  rw [Below.heap_setCell _ _ _ _ hne]; exact h
theorem blk_alloc {w : World} {b : Nat} {o x : Obj} (h : w.heap[b]? = some o) : (w.alloc x).heap[b]? = some o := by
  rw [Below.heap_alloc _ _ _ (lt_heap h)]; exact h
theorem blk_new (w : World) (o : Obj) : (w.alloc o).heap[w.heap.size]? = some o := by
  exact heap_alloc_new w o

/-! ### a row of cells somewhere in a block -/
/-- The cells from (g, o) on hold vs. -/
def Cells (w : World) (g o : Nat) (vs : List Value) : Prop :=
  ∀ i v, vs[i]? = some v → w.cell? ⟨g, o + i, none⟩ = some v

theorem Cells.cell {w : World} {g o : Nat} {vs : List Value} (h : Cells w g o vs) {i : Nat} {v : Value} (hi : vs[i]? = some v) : w.cell? ⟨g, o + i, none⟩ = some v := h i v hi
theorem Cells.fr {bs : List Nat} {w w' : World} {g o : Nat} {vs : List Value} (h : Cells w g o vs) (f : Fr bs w w') (hn : g ∉ bs) : Cells w' g o vs :=
  fun i v hi => f.cell (h i v hi) hn
theorem Cells.drop {w : World} {g o : Nat} {vs : List Value} (h : Cells w g o vs) (k : Nat) : Cells w g (o + k) (vs.drop k) := by
  intro i v hi
  rw [List.getElem?_drop] at hi
  rw [Nat.add_assoc]; exact h _ _ hi
theorem Cells.take {w : World} {g o : Nat} {vs : List Value} (h : Cells w g o vs) (k : Nat) : Cells w g o (vs.take k) := by
  intro i v hi
  rw [List.getElem?_take] at hi
  split at hi
  · exact h _ _ hi
  · cases hi

theorem add_block (x : Addr) (i : Nat) : (x.add i).block = x.block := by unfold Addr.add; split <;> rfl

/-- A slice value of one-cell elements that reads vs: nil, or somewhere in a block. -/
def Sl (w : World) (v : Value) (vs : List Value) : Prop :=
  (v = .slice none 0 0 ∧ vs = []) ∨
  ∃ x c, v = .slice (some x) vs.length c ∧ vs.length ≤ c ∧ c ≤ maxLen ∧ ∀ i u, vs[i]? = some u → w.cell? (x.add i) = some u

theorem Sl.fr {bs : List Nat} {w w' : World} {v : Value} {vs : List Value} (h : Sl w v vs) (f : Fr bs w w') (hn : ∀ g, v.ownBlock = some g → g ∉ bs) : Sl w' v vs := by
  rcases h with h | ⟨x, c, rfl, h1, h2, h3⟩
  · exact .inl h
  · exact .inr ⟨x, c, rfl, h1, h2, fun i u hi => f.cell (h3 i u hi) (by rw [add_block]; exact hn _ rfl)⟩
/-- Where something is read, the slice leads into a row of cells. -/
theorem sl_some {w : World} {v : Value} {vs : List Value} (h : Sl w v vs) (hn : 0 < vs.length) :
    ∃ g o c, v = .slice (some ⟨g, o, none⟩) vs.length c ∧ vs.length ≤ c ∧ c ≤ maxLen ∧ Cells w g o vs := by
  rcases h with ⟨_, rfl⟩ | ⟨x, c, rfl, h1, h2, h3⟩
  · simp at hn
  · have h0 := h3 0 (vs[0]) (List.getElem?_eq_getElem hn)
    rw [Addr.add, if_pos rfl] at h0
    obtain ⟨g, o, spot⟩ := x
    have hs : spot = none := World.cell?_spot h0
    subst hs
    exact ⟨g, o, c, rfl, h1, h2, fun i u hi => by have := h3 i u hi; rwa [Addr.add_lit] at this⟩
theorem sl_mk {w : World} {g o c : Nat} {vs : List Value} {n : Nat} (hn : n = vs.length) (h1 : n ≤ c) (h2 : c ≤ maxLen) (h : Cells w g o vs) : Sl w (.slice (some ⟨g, o, none⟩) n c) vs := by
  subst hn
  exact .inr ⟨⟨g, o, none⟩, c, rfl, h1, h2, fun i u hi => by rw [Addr.add_lit]; exact h i u hi⟩

/-- A byte as a value. -/
abbrev vb (x : UInt8) : Value := .int .u8 ((x.toNat : Nat) : Int)
abbrev vbs (l : List UInt8) : List Value := l.map vb

theorem vbs_one (l : List UInt8) : ∀ u ∈ vbs l, u.oneCell' = true := by
  intro u hu; obtain ⟨_, _, rfl⟩ := List.mem_map.1 hu; rfl

/-- What the program owns as a row of one-cell elements can be read. -/
theorem own_sl {w : World} {base e : Nat} {v : Value} {vs : List Value} {n : Nat} (h : w.ownsRow base e 1 v n vs) : Sl w v vs := by
  have hl := h.1
  rcases h.2 with ⟨rfl, rfl⟩ | ⟨g, cap, cur, rfl, hb, hg, hnc, hcm, hcs, htake⟩
  · exact .inl ⟨rfl, List.eq_nil_of_length_eq_zero (by omega)⟩
  · have hn : vs.length = n := by omega
    subst hn
    refine sl_mk rfl hnc hcm (fun i v hi => ?_)
    rw [← htake, List.getElem?_take] at hi
    rw [blk_cell hg]
    split at hi
    · simpa using hi
    · cases hi

theorem own_len {w : World} {base e : Nat} {v : Value} {vs : List Value} {n : Nat} (h : w.ownsRow base e 1 v n vs) : vs.length = n := by have := h.1; omega

/-- What is owned stays so while other blocks turn. -/
theorem own_fr {w w' : World} {base e sz : Nat} {v : Value} {vs : List Value} {n : Nat} {bs : List Nat} (h : w.ownsRow base e sz v n vs) (f : Fr bs w w') (hn : ∀ g, v.ownBlock = some g → g ∉ bs) :
    w'.ownsRow base e sz v n vs := by
  refine ⟨h.1, ?_⟩
  rcases h.2 with hh | ⟨g, cap, cur, rfl, hb, hg, rest⟩
  · exact .inl hh
  · exact .inr ⟨g, cap, cur, rfl, hb, f.get hg (hn g rfl), rest⟩

theorem own_base {w : World} {base base' e sz : Nat} {v : Value} {vs : List Value} {n : Nat} (h : w.ownsRow base e sz v n vs) (hb : base' ≤ base) : w.ownsRow base' e sz v n vs := by
  refine ⟨h.1, ?_⟩
  rcases h.2 with hh | ⟨g, cap, cur, rfl, hb', r⟩
  · exact .inl hh
  · exact .inr ⟨g, cap, cur, rfl, Nat.le_trans hb hb', r⟩

theorem own_ge {w : World} {base e sz : Nat} {v : Value} {vs : List Value} {n : Nat} (h : w.ownsRow base e sz v n vs) {g : Nat} (hg : v.ownBlock = some g) : base ≤ g := (h.lt g hg).1

/-! ### append to a row that the program owns -/
/-- What the walk must know of a slice type t with elements e. -/
structure SliceT (P : Program) (t e : TypeId) (z : Value) (size bytes : Nat) : Prop where
  und : P.underlying t = some (.slice e)
  info : (P.info? e).map (fun i => (i.zero, i.size, i.bytes)) = some (some z, size, bytes)
  zs : z.cells.size = size
  pos : 0 < size

theorem grown_fr {w w' : World} {row : Option Nat} (h : w.grownBy w' row) : Fr row.toList w w' :=
  ⟨h.os, h.tape, h.output, h.size, fun k hk hn => h.block k hk (fun e => hn (by simp [← e]))⟩

theorem own_slice {w : World} {base e sz : Nat} {v : Value} {vs : List Value} {n : Nat} (h : w.ownsRow base e sz v n vs) : ∃ a c, v = .slice a n c := by
  rcases h.2 with ⟨rfl, rfl⟩ | ⟨g, cap, cur, rfl, _⟩
  · exact ⟨none, 0, rfl⟩
  · exact ⟨_, cap, rfl⟩

theorem run_app {P : Program} {t e : TypeId} {z : Value} {size bytes : Nat} (S : SliceT P t e z size bytes) (ty : TypeId) (w : World) (base : Nat)
    (v : Value) (n : Nat) (xs : List Value) (hown : w.ownsRow base e size v n xs)
    (ao : Option Addr) (m c : Nat) (news : List Value) (hl : news.length = m * size) (hnone : ao = none → m = 0 ∧ c = 0)
    (hnews : ∀ ad, ao = some ad → ∀ j u, news[j]? = some u → w.cell? (ad.add j) = some u) (h1 : ∀ u ∈ news, u.oneCell' = true)
    (hlen : n + m ≤ 4398046511104) (hb : bytes ≤ 32) (hbase : base ≤ w.heap.size) :
    ∃ v' w', (Builtin.append_ #[t, t] ty #[v, .slice ao m c]).run P w = .ok v' w' ∧ w'.ownsRow base e size v' (n + m) (xs ++ news) ∧ Fr v.ownBlock.toList w w' ∧
      (∀ g, v'.ownBlock = some g → v.ownBlock = some g ∨ w.heap.size ≤ g) := by
  obtain ⟨i, hi, hz, hs, hby⟩ := info_parts S.info
  cases ao with
  | none =>
    obtain ⟨rfl, rfl⟩ := hnone rfl
    have hnews' : news = [] := List.eq_nil_of_length_eq_zero (by simpa using hl)
    subst hnews'
    exact ⟨v, w, run_append_owned_none (P := P) w base t ty e i size S.und hi v n xs hown, by simpa using hown, Fr.refl _ _, fun g hg => .inl hg⟩
  | some ad =>
    have hm : n + m ≤ maxLen := by unfold maxLen; omega
    have hbb : (n + m) * bytes ≤ 140737488355328 := Nat.le_trans (Nat.mul_le_mul hlen hb) (by decide)
    obtain ⟨v', w', hr, ho, hg, _⟩ := run_append_own (P := P) w base t ty e i z size bytes S.und hi hz hs hby S.zs S.pos v n xs hown ad m c news hl (hnews ad rfl) h1 hm hbb hbase
    refine ⟨v', w', hr, ho, grown_fr hg, fun g hgv => ?_⟩
    have hdet : ∀ v'' w'', (Builtin.append_ #[t, t] ty #[v, .slice (some ad) m c]).run P w = .ok v'' w'' → v'' = v' := by
      intro v'' w'' h2; rw [hr] at h2; cases h2; rfl
    rcases hown.2 with ⟨rfl, rfl⟩ | ⟨b, cap, cur, rfl, hbg, hhb, hnc, hcm, hcs, htake⟩
    · have hx : xs = [] := List.eq_nil_of_length_eq_zero (by simpa using hown.1)
      subst hx
      obtain ⟨v2, w2, hr2, ho2, _, _⟩ := run_append_own (P := P) w w.heap.size t ty e i z size bytes S.und hi hz hs hby S.zs S.pos _ 0 [] (World.ownsRow_nil w _ e size) ad m c news hl (hnews ad rfl) h1 hm hbb (Nat.le_refl _)
      obtain rfl := hdet _ _ hr2
      exact .inr (ho2.lt g hgv).1
    · by_cases hroom : n + m ≤ cap
      · have hfit : n * i.size + news.length ≤ cur.size := by rw [hl, hcs, hs, ← Nat.add_mul]; exact Nat.mul_le_mul_right _ hroom
        have h2 := run_append_room (P := P) w t ty e i S.und hi b n cap cur hhb ad m c news (by rw [hs]; exact hl) (hnews ad rfl) h1 hroom hfit
        obtain rfl := hdet _ _ h2
        exact .inl (by simpa [Value.ownBlock] using hgv)
      · have holds : ∀ j u, xs[j]? = some u → w.cell? ((⟨b, 0, none⟩ : Addr).add j) = some u := hown.cells (g := b) rfl
        have h2 := run_append_grow (P := P) w t ty e i z S.und hi hz ⟨b, 0, none⟩ n cap xs (by rw [hs]; exact hown.1) holds ad m c news (by rw [hs]; exact hl) (hnews ad rfl) (by omega) (by omega) (growslice_fits (by omega) (by rw [hby]; exact hbb))
        obtain rfl := hdet _ _ h2
        right; simp [Value.ownBlock] at hgv; omega

theorem wpList_app {P : Program} {t e : TypeId} {z : Value} {size bytes : Nat} (S : SliceT P t e z size bytes) (w : World) {ops : Array Oper} {rest : List Oper} {o : Oper} {a : Act} {Q : Exit → Act → World → Prop}
    (hgd : o.guard = none) (s x : Operand) (ho : o.op = .call { callee := .builtin .append, args := #[s, x], argTypes := #[t, t] }) (base : Nat)
    (v : Value) (n : Nat) (xs : List Value) (hs : a.eval s = v) (hown : w.ownsRow base e size v n xs)
    (ao : Option Addr) (m c : Nat) (news : List Value) (hx : a.eval x = .slice ao m c) (hl : news.length = m * size) (hnone : ao = none → m = 0 ∧ c = 0)
    (hnews : ∀ ad, ao = some ad → ∀ j u, news[j]? = some u → w.cell? (ad.add j) = some u) (h1 : ∀ u ∈ news, u.oneCell' = true)
    (hlen : n + m ≤ 4398046511104) (hb : bytes ≤ 32) (hbase : base ≤ w.heap.size)
    (h : ∀ a' c' w', w'.ownsRow base e size (.slice a' (n + m) c') (n + m) (xs ++ news) → Fr v.ownBlock.toList w w' → (∀ g, (Value.slice a' (n + m) c').ownBlock = some g → v.ownBlock = some g ∨ w.heap.size ≤ g) →
      wpList P ops Q rest (a.put o.dst (.slice a' (n + m) c')) w') :
    wpList P ops Q (o :: rest) a w := by
  refine wpList_plain hgd fun K hK => ?_
  obtain ⟨v', w', hr, h2, h3, h4⟩ := run_app (P := P) S o.type w base v n xs hown ao m c news hl hnone hnews h1 hlen hb hbase
  unfold Oper.wp execOp
  simp only [ho, resolve, invoke, builtin, Sem.run_bind, Sem.run_pure, Result.andThen_ok, List.map_toArray, List.map_cons, List.map_nil, hs, hx, hr]
  obtain ⟨a', c', rfl⟩ := own_slice h2
  exact hK _ _ (h a' c' w' h2 h3 h4)

/-- Behind an append to a row of the call's own: nothing old has turned. -/
theorem Fr.app {bs : List Nat} {a b c w : World} {base e sz : Nat} {v : Value} {vs : List Value} {n : Nat} (h : Fr bs a b) (ho : w.ownsRow base e sz v n vs) (hb : a.heap.size ≤ base) (k : Fr v.ownBlock.toList b c) : Fr bs a c :=
  h.trans k (fun i hi hlt => by simp at hi; have := own_ge ho hi; omega)

/-- The one cell of 'append(xs, x)''s new block. -/
theorem news_one {w : World} {n : Nat} (hn : n = w.heap.size) (x : Value) (t : TypeId) :
    ∀ ad, some (⟨n, 0, none⟩ : Addr) = some ad → ∀ j u, [x][j]? = some u → (w.alloc (.cells #[x] t)).cell? (ad.add j) = some u := by
  intro ad had j u hu
  obtain rfl := Option.some.inj had
  subst hn
  cases j with
  | zero => simp at hu; subst hu; simp [Addr.add]
  | succ j => simp at hu

/-- The cells of a slice that is appended. -/
theorem sl_news {w : World} {v : Value} {vs : List Value} (h : Sl w v vs) : ∃ ao c, v = .slice ao vs.length c ∧ (ao = none → vs.length = 0 ∧ c = 0) ∧
    (∀ ad, ao = some ad → ∀ j u, vs[j]? = some u → w.cell? (ad.add j) = some u) := by
  rcases h with ⟨rfl, rfl⟩ | ⟨x, c, rfl, h1, h2, h3⟩
  · exact ⟨none, 0, rfl, fun _ => ⟨rfl, rfl⟩, fun ad had => by cases had⟩
  · exact ⟨_, c, rfl, (fun h => by cases h), fun ad had j u hu => by obtain rfl := Option.some.inj had; exact h3 j u hu⟩

end Go.Proofs.YtahohmdfllgedaaGreat

namespace Go.Proofs.YtahohmdfllgedaaGreat
open Go.RowKit

/-- A slice value whose elements take 'size' cells each: element i's cells hold what R says of l[i]. -/
def RSl {α : Type} (size : Nat) (R : List Value → α → Prop) (W : World) (v : Value) (l : List α) : Prop :=
  (v = .slice none 0 0 ∧ l = []) ∨
  ∃ x c, v = .slice (some x) l.length c ∧ l.length ≤ c ∧ c ≤ maxLen ∧
    ∀ i (h : i < l.length), ∃ vs, vs.length = size ∧ R vs l[i] ∧ ∀ j u, vs[j]? = some u → W.cell? (x.add (i * size + j)) = some u

theorem RSl.shape {α : Type} {size : Nat} {R : List Value → α → Prop} {W : World} {v : Value} {l : List α} (h : RSl size R W v l) :
    ∃ a c, v = .slice a l.length c ∧ l.length ≤ c ∧ c ≤ 9223372036854775807 := by
  rcases h with ⟨rfl, rfl⟩ | ⟨x, c, rfl, h1, h2, _⟩
  · exact ⟨none, 0, rfl, Nat.le_refl _, by omega⟩
  · exact ⟨some x, c, rfl, h1, by unfold maxLen at h2; omega⟩

/-- Where there is an element: the slice leads into a row of cells. -/
theorem RSl.elem {α : Type} {size : Nat} {R : List Value → α → Prop} {W : World} {a : Option Addr} {n c : Nat} {l : List α} (h : RSl size R W (.slice a n c) l) (hsz : 0 < size) (hl : 0 < l.length) :
    ∃ g o, a = some ⟨g, o, none⟩ ∧ g < W.heap.size ∧ ∀ i (h : i < l.length), ∃ vs, vs.length = size ∧ R vs l[i] ∧ ∀ j u, vs[j]? = some u → W.cell? ⟨g, o + i * size + j, none⟩ = some u := by
  rcases h with ⟨_, rfl⟩ | ⟨x, c', hv, h1, h2, h3⟩
  · simp at hl
  · simp only [Value.slice.injEq] at hv
    obtain ⟨rfl, -, -⟩ := hv
    obtain ⟨vs, hvl, -, hcell⟩ := h3 0 hl
    have h0 := hcell 0 (vs[0]'(by omega)) (List.getElem?_eq_getElem (by omega))
    rw [Nat.zero_mul, Nat.add_zero, Addr.add, if_pos rfl] at h0
    obtain ⟨g, o, spot⟩ := x
    have hs : spot = none := World.cell?_spot h0
    subst hs
    refine ⟨g, o, rfl, World.block_lt_of_cell? W _ h0, fun i hi => ?_⟩
    obtain ⟨vs, hvl, hR, hcell⟩ := h3 i hi
    refine ⟨vs, hvl, hR, fun j u hj => ?_⟩
    have := hcell j u hj
    rwa [Addr.add_lit, ← Nat.add_assoc] at this

/-- An instruction of a call frame. -/
structure LCall where
  op : Int
  a : Int
  b : Int
  data : List UInt8
/-- A frame description entry. -/
structure LFrame where
  start : Nat
  size : Nat
  calls : List LCall
/-- A common information entry with its frames. -/
structure LCommon where
  version : Int
  code : Nat
  offset : Int
  ret : Int
  calls : List LCall
  frames : List LFrame

def i64 (n : Int) : Prop := -9223372036854775808 ≤ n ∧ n ≤ 9223372036854775807

def RCall (W : World) (vs : List Value) (c : LCall) : Prop :=
  ∃ dv, vs = [.int .i64 c.op, .int .i64 c.a, .int .i64 c.b, dv] ∧ Sl W dv (vbs c.data) ∧ i64 c.op ∧ i64 c.a ∧ i64 c.b
def RFrame (W : World) (vs : List Value) (f : LFrame) : Prop :=
  ∃ cv, vs = [.int .u64 (f.start : Int), .int .u64 (f.size : Int), cv] ∧ RSl 4 (RCall W) W cv f.calls ∧ f.start < 18446744073709551616 ∧ f.size < 18446744073709551616
def RCommon (W : World) (vs : List Value) (c : LCommon) : Prop :=
  ∃ cv fv, vs = [.int .i64 c.version, .int .u64 (c.code : Int), .int .i64 c.offset, .int .i64 c.ret, cv, fv] ∧ RSl 4 (RCall W) W cv c.calls ∧ RSl 3 (RFrame W) W fv c.frames ∧
    i64 c.version ∧ c.code < 18446744073709551616 ∧ i64 c.offset ∧ i64 c.ret
/-- The input of the statements about call frame information. -/
def RList (W : World) (v : Value) (l : List LCommon) : Prop := RSl 6 (RCommon W) W v l

theorem sl_form {W : World} {v : Value} {l : List UInt8} (h : Sl W v (vbs l)) : ∃ a c, v = .slice a l.length c := by
  rcases h with ⟨rfl, hd⟩ | ⟨x, c, rfl, _, _, _⟩
  · have : l = [] := by simpa using hd
    rw [this]; exact ⟨none, 0, rfl⟩
  · exact ⟨some x, c, by simp⟩
theorem rsl_form {α : Type} {size : Nat} {R : List Value → α → Prop} {W : World} {v : Value} {l : List α} (h : RSl size R W v l) : ∃ a c, v = .slice a l.length c := by
  obtain ⟨a, c, h, _⟩ := h.shape; exact ⟨a, c, h⟩

/-- Instruction k, read in a later world. -/
theorem call_at {W wr : World} {a : Option Addr} {n c : Nat} {l : List LCall} (h : RSl 4 (RCall W) W (.slice a n c) l) (f : Fr [] W wr) (k : Nat) (hk : k < l.length) :
    ∃ g o da dc, a = some ⟨g, o, none⟩ ∧ wr.cell? ⟨g, o + k * 4, none⟩ = some (.int .i64 l[k].op) ∧ wr.cell? ⟨g, o + k * 4 + 1, none⟩ = some (.int .i64 l[k].a) ∧
      wr.cell? ⟨g, o + k * 4 + 2, none⟩ = some (.int .i64 l[k].b) ∧ wr.cell? ⟨g, o + k * 4 + 3, none⟩ = some (.slice da l[k].data.length dc) ∧
      Sl W (.slice da l[k].data.length dc) (vbs l[k].data) ∧ i64 l[k].op ∧ i64 l[k].a ∧ i64 l[k].b := by
  obtain ⟨g, o, rfl, hg, hel⟩ := h.elem (by decide) (by omega)
  obtain ⟨vs, hvs, ⟨dv, rfl, hd, hb1, hb2, hb3⟩, hcell⟩ := hel k hk
  obtain ⟨da, dc, rfl⟩ := sl_form hd
  exact ⟨g, o, da, dc, rfl, f.cell (hcell 0 _ rfl) (by simp), f.cell (hcell 1 _ rfl) (by simp), f.cell (hcell 2 _ rfl) (by simp), f.cell (hcell 3 _ rfl) (by simp), hd, hb1, hb2, hb3⟩
/-- Frame k. -/
theorem frame_at {W wr : World} {a : Option Addr} {n c : Nat} {l : List LFrame} (h : RSl 3 (RFrame W) W (.slice a n c) l) (f : Fr [] W wr) (k : Nat) (hk : k < l.length) :
    ∃ g o da dc, a = some ⟨g, o, none⟩ ∧ wr.cell? ⟨g, o + k * 3, none⟩ = some (.int .u64 (l[k].start : Int)) ∧ wr.cell? ⟨g, o + k * 3 + 1, none⟩ = some (.int .u64 (l[k].size : Int)) ∧
      wr.cell? ⟨g, o + k * 3 + 2, none⟩ = some (.slice da l[k].calls.length dc) ∧
      RSl 4 (RCall W) W (.slice da l[k].calls.length dc) l[k].calls ∧ l[k].start < 18446744073709551616 ∧ l[k].size < 18446744073709551616 := by
  obtain ⟨g, o, rfl, hg, hel⟩ := h.elem (by decide) (by omega)
  obtain ⟨vs, hvs, ⟨dv, rfl, hd, hb1, hb2⟩, hcell⟩ := hel k hk
  obtain ⟨da, dc, rfl⟩ := rsl_form hd
  exact ⟨g, o, da, dc, rfl, f.cell (hcell 0 _ rfl) (by simp), f.cell (hcell 1 _ rfl) (by simp), f.cell (hcell 2 _ rfl) (by simp), hd, hb1, hb2⟩
/-- Entry k. -/
theorem common_at {W wr : World} {a : Option Addr} {n c : Nat} {l : List LCommon} (h : RList W (.slice a n c) l) (f : Fr [] W wr) (k : Nat) (hk : k < l.length) :
    ∃ g o ca cc fa fc, a = some ⟨g, o, none⟩ ∧ wr.cell? ⟨g, o + k * 6, none⟩ = some (.int .i64 l[k].version) ∧ wr.cell? ⟨g, o + k * 6 + 1, none⟩ = some (.int .u64 (l[k].code : Int)) ∧
      wr.cell? ⟨g, o + k * 6 + 2, none⟩ = some (.int .i64 l[k].offset) ∧ wr.cell? ⟨g, o + k * 6 + 3, none⟩ = some (.int .i64 l[k].ret) ∧
      wr.cell? ⟨g, o + k * 6 + 4, none⟩ = some (.slice ca l[k].calls.length cc) ∧ wr.cell? ⟨g, o + k * 6 + 5, none⟩ = some (.slice fa l[k].frames.length fc) ∧
      RSl 4 (RCall W) W (.slice ca l[k].calls.length cc) l[k].calls ∧ RSl 3 (RFrame W) W (.slice fa l[k].frames.length fc) l[k].frames ∧
      i64 l[k].version ∧ l[k].code < 18446744073709551616 ∧ i64 l[k].offset ∧ i64 l[k].ret := by
  obtain ⟨g, o, rfl, hg, hel⟩ := RSl.elem h (by decide) (by omega)
  obtain ⟨vs, hvs, ⟨cv, fv, rfl, hd, he, hb1, hb2, hb3, hb4⟩, hcell⟩ := hel k hk
  obtain ⟨ca, cc, rfl⟩ := rsl_form hd
  obtain ⟨fa, fc, rfl⟩ := rsl_form he
  exact ⟨g, o, ca, cc, fa, fc, rfl, f.cell (hcell 0 _ rfl) (by simp), f.cell (hcell 1 _ rfl) (by simp), f.cell (hcell 2 _ rfl) (by simp), f.cell (hcell 3 _ rfl) (by simp), f.cell (hcell 4 _ rfl) (by simp),
    f.cell (hcell 5 _ rfl) (by simp), hd, he, hb1, hb2, hb3, hb4⟩

theorem all_take_succ {α : Type} (p : α → Bool) (l : List α) (k : Nat) (hk : k < l.length) : (l.take (k + 1)).all p = ((l.take k).all p && p l[k]) := by
  rw [List.take_succ_eq_append_getElem hk, List.all_append]; simp
theorem all_false {α : Type} (p : α → Bool) (l : List α) (k : Nat) (hk : k < l.length) (h : p l[k] = false) : l.all p = false := by
  rw [List.all_eq_false]; exact ⟨l[k], List.getElem_mem _, by simp [h]⟩

end Go.Proofs.YtahohmdfllgedaaGreat

namespace Go.Proofs.YtahohmdfllgedaaGreat
open Go.RowKit

def fits4 (c : LCall) : Bool := decide (c.data.length ≤ 2147483647)
def fits3 (l : List LCall) : Bool := decide (l.length ≤ 2147483647) && l.all fits4
def fits6 (f : LFrame) : Bool := fits3 f.calls
def fits5 (l : List LFrame) : Bool := decide (l.length ≤ 2147483647) && l.all fits6
def fits2 (c : LCommon) : Bool := fits3 c.calls && fits5 c.frames
def fits1 (l : List LCommon) : Bool := decide (l.length ≤ 2147483647) && l.all fits2

set_option maxHeartbeats 400000 in
theorem zzFits4_any (op a b : Int) (ad : Option Addr) (n c : Nat) (w : World) :
    Calls Tryz.prog 49 #[.agg #[.int .i64 op, .int .i64 a, .int .i64 b, .slice ad n c]] w fun e w' => e = .returned (.bool (decide (n ≤ 2147483647))) ∧ Fr [] w w' := by
  by_cases h : n ≤ 2147483647
  · have t : ¬ (2147483647 : Int) < (n : Int) := by omega
    rw [decide_eq_true h]
    go_enter Tryz.func49, Tryz.ntmps49
    go_wp2_with fail
    go_ret
    exact ⟨rfl, (Fr.refl _ _).alloc _⟩
  · have t : (2147483647 : Int) < (n : Int) := by omega
    rw [decide_eq_false h]
    go_enter Tryz.func49, Tryz.ntmps49
    go_wp2_with fail
    go_ret
    exact ⟨rfl, (Fr.refl _ _).alloc _⟩

set_option maxRecDepth 100000 in
set_option maxHeartbeats 1000000 in
theorem zzFits3_any (W : World) (v : Value) (l : List LCall) (w : World) (h : RSl 4 (RCall W) W v l) (hw : Fr [] W w) :
    Calls Tryz.prog 33 #[v] w fun e w' => e = .returned (.bool (fits3 l)) ∧ Fr [] w w' := by
  obtain ⟨a, c, rfl, h1, h2⟩ := h.shape
  have H := Lib.hid h
  have Hw := Lib.hid hw
  clear h hw
  by_cases hn : l.length ≤ 2147483647
  · have t : ¬ (2147483647 : Int) < (l.length : Int) := by omega
    have e : fits3 l = l.all fits4 := by simp [fits3, hn]
    rw [e]
    go_enter Tryz.func33, Tryz.ntmps33
    go_wp2_with fail
    go_loopw [10] (fun i wr => ∃ k : Nat, k ≤ l.length ∧ i = .int .i64 (k : Int) ∧ (l.take k).all fits4 = true ∧ Fr [] w wr) (fun i _ => l.length - (intOf i).toNat)
    case atStart => exact ⟨0, Nat.zero_le _, rfl, rfl, Fr.refl _ _⟩
    case round =>
      obtain ⟨k, hk, rfl, hall, hfr⟩ := hrel
      have Hall := Lib.hid hall
      have Hfr := Lib.hid hfr
      clear hall hfr
      by_cases hlt : k < l.length
      · obtain ⟨g, o, da, dc, rfl, c0, c1, c2, c3, -⟩ := call_at H.out (Hw.out.then Hfr.out) k hlt
        have hstep := all_take_succ fits4 l k hlt
        have hstop := all_false fits4 l k hlt
        have Hs := Lib.hid (And.intro hstep hstop)
        clear hstep hstop
        generalize l[k] = x at *
        cases hx : fits4 x
        · have Hx := Lib.hid hx
          clear hx
          go_wp2_with (go_at_call 49; go_must (refine (zzFits4_any _ _ _ _ _ _ _).mono ?_))
          have hx' : decide (x.data.length ≤ 2147483647) = _ := Hx.out
          rw [hx']
          clear hx'
          rintro e w1 ⟨rfl, hf1⟩
          have Hf1 := Lib.hid hf1
          clear hf1
          go_wp2
          go_ret
          exact ⟨by rw [Hs.out.2 Hx.out]; rfl, (Hfr.out.alloc _).then Hf1.out⟩
        · have Hx := Lib.hid hx
          clear hx
          go_wp2_with (go_at_call 49; go_must (refine (zzFits4_any _ _ _ _ _ _ _).mono ?_))
          have hx' : decide (x.data.length ≤ 2147483647) = _ := Hx.out
          rw [hx']
          clear hx'
          rintro e w1 ⟨rfl, hf1⟩
          have Hf1 := Lib.hid hf1
          clear hf1
          go_wp2
          go_roundw
          case rel => exact ⟨k + 1, by omega, by go_num, by rw [Hs.out.1, Hall.out, Hx.out]; rfl, (Hfr.out.alloc _).then Hf1.out⟩
          case measure => simp [intOf]; omega
      · obtain rfl : k = l.length := by omega
        clear hlt
        go_wp2
        go_ret
        exact ⟨by rw [← Hall.out, List.take_length]; rfl, Hfr.out⟩
  · have t : (2147483647 : Int) < (l.length : Int) := by omega
    have e : fits3 l = false := by simp [fits3, hn]
    rw [e]
    go_enter Tryz.func33, Tryz.ntmps33
    go_wp2_with fail
    go_ret
    exact ⟨rfl, Fr.refl _ _⟩

set_option maxHeartbeats 400000 in
theorem zzFits6_any (W : World) (f : LFrame) (ad : Option Addr) (c : Nat) (w : World) (h : RSl 4 (RCall W) W (.slice ad f.calls.length c) f.calls) (hw : Fr [] W w) :
    Calls Tryz.prog 50 #[.agg #[.int .u64 (f.start : Int), .int .u64 (f.size : Int), .slice ad f.calls.length c]] w fun e w' => e = .returned (.bool (fits6 f)) ∧ Fr [] w w' := by
  have H := Lib.hid h
  have Hw := Lib.hid hw
  clear h hw
  have e : fits6 f = fits3 f.calls := rfl
  rw [e]
  cases hx : fits3 f.calls
  all_goals
    have Hx := Lib.hid hx
    clear hx e
    go_enter Tryz.func50, Tryz.ntmps50
    go_wp2_with (go_at_call 33; go_must (refine (zzFits3_any W _ f.calls _ H.out (Hw.out.alloc _)).mono ?_))
    rw [Hx.out]
    rintro e w1 ⟨rfl, hf1⟩
    have Hf1 := Lib.hid hf1
    clear hf1
    go_wp2
    go_ret
    exact ⟨rfl, ((Fr.refl [] w).alloc _).then Hf1.out⟩

set_option maxRecDepth 100000 in
set_option maxHeartbeats 1000000 in
theorem zzFits5_any (W : World) (v : Value) (l : List LFrame) (w : World) (h : RSl 3 (RFrame W) W v l) (hw : Fr [] W w) :
    Calls Tryz.prog 34 #[v] w fun e w' => e = .returned (.bool (fits5 l)) ∧ Fr [] w w' := by
  obtain ⟨a, c, rfl, h1, h2⟩ := h.shape
  have H := Lib.hid h
  have Hw := Lib.hid hw
  clear h hw
  by_cases hn : l.length ≤ 2147483647
  · have t : ¬ (2147483647 : Int) < (l.length : Int) := by omega
    have e : fits5 l = l.all fits6 := by simp [fits5, hn]
    rw [e]
    go_enter Tryz.func34, Tryz.ntmps34
    go_wp2_with fail
    go_loopw [10] (fun i wr => ∃ k : Nat, k ≤ l.length ∧ i = .int .i64 (k : Int) ∧ (l.take k).all fits6 = true ∧ Fr [] w wr) (fun i _ => l.length - (intOf i).toNat)
    case atStart => exact ⟨0, Nat.zero_le _, rfl, rfl, Fr.refl _ _⟩
    case round =>
      obtain ⟨k, hk, rfl, hall, hfr⟩ := hrel
      have Hall := Lib.hid hall
      have Hfr := Lib.hid hfr
      clear hall hfr
      by_cases hlt : k < l.length
      · obtain ⟨g, o, da, dc, rfl, c0, c1, c2, hd, -⟩ := frame_at H.out (Hw.out.then Hfr.out) k hlt
        have Hd := Lib.hid hd
        clear hd
        have hstep := all_take_succ fits6 l k hlt
        have hstop := all_false fits6 l k hlt
        have Hs := Lib.hid (And.intro hstep hstop)
        clear hstep hstop
        generalize l[k] = x at *
        cases hx : fits6 x
        · have Hx := Lib.hid hx
          clear hx
          go_wp2_with (go_at_call 50; go_must (refine (zzFits6_any W x _ _ _ Hd.out ((Hw.out.then Hfr.out).alloc _)).mono ?_))
          rw [Hx.out]
          rintro e w1 ⟨rfl, hf1⟩
          have Hf1 := Lib.hid hf1
          clear hf1
          go_wp2
          go_ret
          exact ⟨by rw [Hs.out.2 Hx.out]; rfl, (Hfr.out.alloc _).then Hf1.out⟩
        · have Hx := Lib.hid hx
          clear hx
          go_wp2_with (go_at_call 50; go_must (refine (zzFits6_any W x _ _ _ Hd.out ((Hw.out.then Hfr.out).alloc _)).mono ?_))
          rw [Hx.out]
          rintro e w1 ⟨rfl, hf1⟩
          have Hf1 := Lib.hid hf1
          clear hf1
          go_wp2
          go_roundw
          case rel => exact ⟨k + 1, by omega, by go_num, by rw [Hs.out.1, Hall.out, Hx.out]; rfl, (Hfr.out.alloc _).then Hf1.out⟩
          case measure => simp [intOf]; omega
      · obtain rfl : k = l.length := by omega
        clear hlt
        go_wp2
        go_ret
        exact ⟨by rw [← Hall.out, List.take_length]; rfl, Hfr.out⟩
  · have t : (2147483647 : Int) < (l.length : Int) := by omega
    have e : fits5 l = false := by simp [fits5, hn]
    rw [e]
    go_enter Tryz.func34, Tryz.ntmps34
    go_wp2_with fail
    go_ret
    exact ⟨rfl, Fr.refl _ _⟩

set_option maxHeartbeats 1000000 in
theorem zzFits2_any (W : World) (x : LCommon) (ca fa : Option Addr) (cc fc : Nat) (w : World) (h : RSl 4 (RCall W) W (.slice ca x.calls.length cc) x.calls) (h' : RSl 3 (RFrame W) W (.slice fa x.frames.length fc) x.frames) (hw : Fr [] W w) :
    Calls Tryz.prog 13 #[.agg #[.int .i64 x.version, .int .u64 (x.code : Int), .int .i64 x.offset, .int .i64 x.ret, .slice ca x.calls.length cc, .slice fa x.frames.length fc]] w fun e w' =>
      e = .returned (.bool (fits2 x)) ∧ Fr [] w w' := by
  have H := Lib.hid h
  have H' := Lib.hid h'
  have Hw := Lib.hid hw
  clear h h' hw
  have e : fits2 x = (fits3 x.calls && fits5 x.frames) := rfl
  rw [e]
  clear e
  cases hx : fits3 x.calls
  · have Hx := Lib.hid hx
    clear hx
    go_enter Tryz.func13, Tryz.ntmps13
    go_wp2_with (go_at_call 33; go_must (refine (zzFits3_any W _ x.calls _ H.out (Hw.out.alloc _)).mono ?_))
    rw [Hx.out]
    rintro e w1 ⟨rfl, hf1⟩
    have Hf1 := Lib.hid hf1
    clear hf1
    go_wp2
    go_ret
    exact ⟨rfl, ((Fr.refl [] w).alloc _).then Hf1.out⟩
  · have Hx := Lib.hid hx
    clear hx
    cases hy : fits5 x.frames
    all_goals
      have Hy := Lib.hid hy
      clear hy
      go_enter Tryz.func13, Tryz.ntmps13
      go_wp2_with (go_at_call 33; go_must (refine (zzFits3_any W _ x.calls _ H.out (Hw.out.alloc _)).mono ?_))
      rw [Hx.out]
      rintro e w1 ⟨rfl, hf1⟩
      have Hf1 := Lib.hid hf1
      have g5 : w1.cell? ⟨w.heap.size, 5, none⟩ = some (.slice fa x.frames.length fc) := by
        rw [blk_cell (hf1.get (blk_new _ _) (by simp))]; rfl
      clear hf1
      go_wp2_with (go_at_call 34; go_must (refine (zzFits5_any W _ x.frames _ H'.out ((Hw.out.alloc _).then Hf1.out)).mono ?_))
      rw [Hy.out]
      rintro e w2 ⟨rfl, hf2⟩
      have Hf2 := Lib.hid hf2
      clear hf2
      go_wp2
      go_ret
      exact ⟨rfl, (((Fr.refl [] w).alloc _).then Hf1.out).then Hf2.out⟩

set_option maxRecDepth 100000 in
set_option maxHeartbeats 1000000 in
theorem zzFits1_any (W : World) (v : Value) (l : List LCommon) (w : World) (h : RSl 6 (RCommon W) W v l) (hw : Fr [] W w) :
    Calls Tryz.prog 5 #[v] w fun e w' => e = .returned (.bool (fits1 l)) ∧ Fr [] w w' := by
  obtain ⟨a, c, rfl, h1, h2⟩ := h.shape
  have H := Lib.hid h
  have Hw := Lib.hid hw
  clear h hw
  by_cases hn : l.length ≤ 2147483647
  · have t : ¬ (2147483647 : Int) < (l.length : Int) := by omega
    have e : fits1 l = l.all fits2 := by simp [fits1, hn]
    rw [e]
    go_enter Tryz.func5, Tryz.ntmps5
    go_wp2_with fail
    go_loopw [10] (fun i wr => ∃ k : Nat, k ≤ l.length ∧ i = .int .i64 (k : Int) ∧ (l.take k).all fits2 = true ∧ Fr [] w wr) (fun i _ => l.length - (intOf i).toNat)
    case atStart => exact ⟨0, Nat.zero_le _, rfl, rfl, Fr.refl _ _⟩
    case round =>
      obtain ⟨k, hk, rfl, hall, hfr⟩ := hrel
      have Hall := Lib.hid hall
      have Hfr := Lib.hid hfr
      clear hall hfr
      by_cases hlt : k < l.length
      · obtain ⟨g, o, ca, cc, fa, fc, rfl, c0, c1, c2, c3, c4, c5, hd, he, -⟩ := common_at H.out (Hw.out.then Hfr.out) k hlt
        have Hd := Lib.hid hd
        have He := Lib.hid he
        clear hd he
        have hstep := all_take_succ fits2 l k hlt
        have hstop := all_false fits2 l k hlt
        have Hs := Lib.hid (And.intro hstep hstop)
        clear hstep hstop
        generalize l[k] = x at *
        cases hx : fits2 x
        · have Hx := Lib.hid hx
          clear hx
          go_wp2_with (go_at_call 13; go_must (refine (zzFits2_any W x _ _ _ _ _ Hd.out He.out ((Hw.out.then Hfr.out).alloc _)).mono ?_))
          rw [Hx.out]
          rintro e w1 ⟨rfl, hf1⟩
          have Hf1 := Lib.hid hf1
          clear hf1
          go_wp2
          go_ret
          exact ⟨by rw [Hs.out.2 Hx.out]; rfl, (Hfr.out.alloc _).then Hf1.out⟩
        · have Hx := Lib.hid hx
          clear hx
          go_wp2_with (go_at_call 13; go_must (refine (zzFits2_any W x _ _ _ _ _ Hd.out He.out ((Hw.out.then Hfr.out).alloc _)).mono ?_))
          rw [Hx.out]
          rintro e w1 ⟨rfl, hf1⟩
          have Hf1 := Lib.hid hf1
          clear hf1
          go_wp2
          go_roundw
          case rel => exact ⟨k + 1, by omega, by go_num, by rw [Hs.out.1, Hall.out, Hx.out]; rfl, (Hfr.out.alloc _).then Hf1.out⟩
          case measure => simp [intOf]; omega
      · obtain rfl : k = l.length := by omega
        clear hlt
        go_wp2
        go_ret
        exact ⟨by rw [← Hall.out, List.take_length]; rfl, Hfr.out⟩
  · have t : (2147483647 : Int) < (l.length : Int) := by omega
    have e : fits1 l = false := by simp [fits1, hn]
    rw [e]
    go_enter Tryz.func5, Tryz.ntmps5
    go_wp2_with fail
    go_ret
    exact ⟨rfl, Fr.refl _ _⟩
end Go.Proofs.YtahohmdfllgedaaGreat

namespace Go.Proofs.YtahohmdfllgedaaGreat
open Go.RowKit

def shape (op : Int) : List UInt8 × Bool :=
  if op = 64 ∨ op = 192 then ([], true)
  else if op = 128 then ([117], true)
  else if op = 0 ∨ op = 10 ∨ op = 11 then ([], true)
  else if op = 1 then ([97], true)
  else if op = 2 then ([49], true)
  else if op = 3 then ([50], true)
  else if op = 4 then ([52], true)
  else if op = 5 ∨ op = 9 ∨ op = 12 ∨ op = 20 then ([117, 117], true)
  else if op = 6 ∨ op = 7 ∨ op = 8 ∨ op = 13 ∨ op = 14 then ([117], true)
  else if op = 15 then ([98], true)
  else if op = 16 ∨ op = 22 then ([117, 98], true)
  else if op = 17 ∨ op = 18 ∨ op = 21 then ([117, 115], true)
  else if op = 19 then ([115], true)
  else ([], false)

set_option maxRecDepth 100000 in
set_option maxHeartbeats 4000000 in
theorem callShape_any (op : Int) (w : World) :
    Calls Tryz.prog 35 #[.int .i64 op] w fun e w' => e = .returned (.tuple #[.string ⟨(shape op).1.toArray⟩, .bool (shape op).2]) ∧ w = w' := by
  go_enter Tryz.func35, Tryz.ntmps35
  go_wp2_with fail
  all_goals
    go_ret2
    exact ⟨by simp_all [shape], rfl⟩

theorem ret_bool {a b : Bool} (h : a = b) : Ending.returned (.bool a) = .returned (.bool b) := by rw [h]

def movesB (op : Int) : Bool := decide (op = 64 ∨ (1 ≤ op ∧ op ≤ 4))
set_option maxRecDepth 100000 in
set_option maxHeartbeats 4000000 in
theorem moves_any (op a b : Int) (ad : Option Addr) (n c : Nat) (w : World) :
    Calls Tryz.prog 15 #[.agg #[.int .i64 op, .int .i64 a, .int .i64 b, .slice ad n c]] w fun e w' => e = .returned (.bool (movesB op)) ∧ Fr [] w w' := by
  go_enter Tryz.func15, Tryz.ntmps15
  go_wp2_with fail
  all_goals
    go_ret
    refine ⟨ret_bool ?_, (Fr.refl _ _).alloc _⟩
    rw [Bool.eq_iff_iff]
    simp [movesB]
    try omega

/-- The operands' ranges of an instruction of shape s. -/
def rightB (op : Int) (s : List UInt8) (a b : Int) : Bool :=
  if op = 64 ∨ op = 192 then decide (0 ≤ a ∧ a < 64)
  else if op = 128 then decide (0 ≤ a ∧ a < 64 ∧ 0 ≤ b ∧ b < 1073741824)
  else if op = 2 then decide (0 ≤ a ∧ a < 256)
  else if op = 3 then decide (0 ≤ a ∧ a < 65536)
  else if op = 4 then decide (0 ≤ a ∧ a < 4294967296)
  else if op = 14 then decide (0 ≤ a ∧ a < 1073741824)
  else if s = [117] ∨ s = [117, 98] then decide (0 ≤ a ∧ a < 65536)
  else if s = [117, 117] then decide (0 ≤ a ∧ a < 65536 ∧ 0 ≤ b ∧ b < 1073741824)
  else if s = [117, 115] then decide (0 ≤ a ∧ a < 65536 ∧ -1073741824 < b ∧ b < 1073741824)
  else if s = [115] then decide (-1073741824 < a ∧ a < 1073741824)
  else true
def callRightB (op a b : Int) (n : Nat) : Bool := (shape op).2 && decide (n ≤ 60) && rightB op (shape op).1 a b

theorem op_cases (op : Int) : (shape op).2 = false ∨ op = 64 ∨ op = 192 ∨ op = 128 ∨ op = 0 ∨ op = 10 ∨ op = 11 ∨ op = 1 ∨ op = 2 ∨ op = 3 ∨ op = 4 ∨ op = 5 ∨ op = 9 ∨ op = 12 ∨ op = 20 ∨
    op = 6 ∨ op = 7 ∨ op = 8 ∨ op = 13 ∨ op = 14 ∨ op = 15 ∨ op = 16 ∨ op = 22 ∨ op = 17 ∨ op = 18 ∨ op = 21 ∨ op = 19 := by
  by_cases h : op = 64 ∨ op = 192 ∨ op = 128 ∨ op = 0 ∨ op = 10 ∨ op = 11 ∨ op = 1 ∨ op = 2 ∨ op = 3 ∨ op = 4 ∨ op = 5 ∨ op = 9 ∨ op = 12 ∨ op = 20 ∨
    op = 6 ∨ op = 7 ∨ op = 8 ∨ op = 13 ∨ op = 14 ∨ op = 15 ∨ op = 16 ∨ op = 22 ∨ op = 17 ∨ op = 18 ∨ op = 21 ∨ op = 19
  · exact .inr h
  · left
    unfold shape
    repeat (rw [if_neg (by omega)])

set_option maxRecDepth 100000 in
set_option maxHeartbeats 8000000 in
theorem callRight_any (op a b : Int) (ad : Option Addr) (n c : Nat) (w : World) :
    Calls Tryz.prog 14 #[.agg #[.int .i64 op, .int .i64 a, .int .i64 b, .slice ad n c]] w fun e w' => e = .returned (.bool (callRightB op a b n)) ∧ Fr [] w w' := by
  by_cases hn : n ≤ 60
  case neg =>
    have t1 : (60 : Int) < (n : Int) := by omega
    have e : callRightB op a b n = false := by simp [callRightB, hn]
    rw [e]
    clear e
    cases hs : (shape op).2
    all_goals
      have Hs := Lib.hid hs
      clear hs
      go_enter Tryz.func14, Tryz.ntmps14
      go_wp2_with (go_at_call 35; go_must (refine (callShape_any _ _).mono ?_; rw [Hs.out]; rintro e w1 ⟨rfl, rfl⟩))
      go_ret
      exact ⟨rfl, (Fr.refl _ _).alloc _⟩
  case pos =>
    have t1 : ¬ (60 : Int) < (n : Int) := by omega
    rcases op_cases op with hs | hop
    · have e : callRightB op a b n = false := by simp [callRightB, hs]
      rw [e]
      clear e
      have Hs := Lib.hid hs
      clear hs
      go_enter Tryz.func14, Tryz.ntmps14
      go_wp2_with (go_at_call 35; go_must (refine (callShape_any _ _).mono ?_; rw [Hs.out]; rintro e w1 ⟨rfl, rfl⟩))
      go_ret
      exact ⟨rfl, (Fr.refl _ _).alloc _⟩
    · rcases hop with rfl | rfl | rfl | rfl | rfl | rfl | rfl | rfl | rfl | rfl | rfl | rfl | rfl | rfl | rfl | rfl | rfl | rfl | rfl | rfl | rfl | rfl | rfl | rfl | rfl | rfl
      · have hsh : shape 64 = ([], true) := by decide
        have Hsh := Lib.hid hsh
        clear hsh
        go_enter Tryz.func14, Tryz.ntmps14
        go_wp2_with (go_at_call 35; go_must (refine (callShape_any _ _).mono ?_; rw [Hsh.out]; rintro e w1 ⟨rfl, rfl⟩))
        all_goals
          go_ret
          refine ⟨ret_bool ?_, (Fr.refl _ _).alloc _⟩
          rw [Bool.eq_iff_iff]
          simp [callRightB, rightB, shape, hn]
          try omega
      · have hsh : shape 192 = ([], true) := by decide
        have Hsh := Lib.hid hsh
        clear hsh
        go_enter Tryz.func14, Tryz.ntmps14
        go_wp2_with (go_at_call 35; go_must (refine (callShape_any _ _).mono ?_; rw [Hsh.out]; rintro e w1 ⟨rfl, rfl⟩))
        all_goals
          go_ret
          refine ⟨ret_bool ?_, (Fr.refl _ _).alloc _⟩
          rw [Bool.eq_iff_iff]
          simp [callRightB, rightB, shape, hn]
          try omega
      · have hsh : shape 128 = ([117], true) := by decide
        have Hsh := Lib.hid hsh
        clear hsh
        go_enter Tryz.func14, Tryz.ntmps14
        go_wp2_with (go_at_call 35; go_must (refine (callShape_any _ _).mono ?_; rw [Hsh.out]; rintro e w1 ⟨rfl, rfl⟩))
        all_goals
          go_ret
          refine ⟨ret_bool ?_, (Fr.refl _ _).alloc _⟩
          rw [Bool.eq_iff_iff]
          simp [callRightB, rightB, shape, hn]
          try omega
      · have hsh : shape 0 = ([], true) := by decide
        have Hsh := Lib.hid hsh
        clear hsh
        go_enter Tryz.func14, Tryz.ntmps14
        go_wp2_with (go_at_call 35; go_must (refine (callShape_any _ _).mono ?_; rw [Hsh.out]; rintro e w1 ⟨rfl, rfl⟩))
        all_goals
          go_ret
          refine ⟨ret_bool ?_, (Fr.refl _ _).alloc _⟩
          rw [Bool.eq_iff_iff]
          simp [callRightB, rightB, shape, hn]
          try omega
      · have hsh : shape 10 = ([], true) := by decide
        have Hsh := Lib.hid hsh
        clear hsh
        go_enter Tryz.func14, Tryz.ntmps14
        go_wp2_with (go_at_call 35; go_must (refine (callShape_any _ _).mono ?_; rw [Hsh.out]; rintro e w1 ⟨rfl, rfl⟩))
        all_goals
          go_ret
          refine ⟨ret_bool ?_, (Fr.refl _ _).alloc _⟩
          rw [Bool.eq_iff_iff]
          simp [callRightB, rightB, shape, hn]
          try omega
      · have hsh : shape 11 = ([], true) := by decide
        have Hsh := Lib.hid hsh
        clear hsh
        go_enter Tryz.func14, Tryz.ntmps14
        go_wp2_with (go_at_call 35; go_must (refine (callShape_any _ _).mono ?_; rw [Hsh.out]; rintro e w1 ⟨rfl, rfl⟩))
        all_goals
          go_ret
          refine ⟨ret_bool ?_, (Fr.refl _ _).alloc _⟩
          rw [Bool.eq_iff_iff]
          simp [callRightB, rightB, shape, hn]
          try omega
      · have hsh : shape 1 = ([97], true) := by decide
        have Hsh := Lib.hid hsh
        clear hsh
        go_enter Tryz.func14, Tryz.ntmps14
        go_wp2_with (go_at_call 35; go_must (refine (callShape_any _ _).mono ?_; rw [Hsh.out]; rintro e w1 ⟨rfl, rfl⟩))
        all_goals
          go_ret
          refine ⟨ret_bool ?_, (Fr.refl _ _).alloc _⟩
          rw [Bool.eq_iff_iff]
          simp [callRightB, rightB, shape, hn]
          try omega
      · have hsh : shape 2 = ([49], true) := by decide
        have Hsh := Lib.hid hsh
        clear hsh
        go_enter Tryz.func14, Tryz.ntmps14
        go_wp2_with (go_at_call 35; go_must (refine (callShape_any _ _).mono ?_; rw [Hsh.out]; rintro e w1 ⟨rfl, rfl⟩))
        all_goals
          go_ret
          refine ⟨ret_bool ?_, (Fr.refl _ _).alloc _⟩
          rw [Bool.eq_iff_iff]
          simp [callRightB, rightB, shape, hn]
          try omega
      · have hsh : shape 3 = ([50], true) := by decide
        have Hsh := Lib.hid hsh
        clear hsh
        go_enter Tryz.func14, Tryz.ntmps14
        go_wp2_with (go_at_call 35; go_must (refine (callShape_any _ _).mono ?_; rw [Hsh.out]; rintro e w1 ⟨rfl, rfl⟩))
        all_goals
          go_ret
          refine ⟨ret_bool ?_, (Fr.refl _ _).alloc _⟩
          rw [Bool.eq_iff_iff]
          simp [callRightB, rightB, shape, hn]
          try omega
      · have hsh : shape 4 = ([52], true) := by decide
        have Hsh := Lib.hid hsh
        clear hsh
        go_enter Tryz.func14, Tryz.ntmps14
        go_wp2_with (go_at_call 35; go_must (refine (callShape_any _ _).mono ?_; rw [Hsh.out]; rintro e w1 ⟨rfl, rfl⟩))
        all_goals
          go_ret
          refine ⟨ret_bool ?_, (Fr.refl _ _).alloc _⟩
          rw [Bool.eq_iff_iff]
          simp [callRightB, rightB, shape, hn]
          try omega
      · have hsh : shape 5 = ([117, 117], true) := by decide
        have Hsh := Lib.hid hsh
        clear hsh
        go_enter Tryz.func14, Tryz.ntmps14
        go_wp2_with (go_at_call 35; go_must (refine (callShape_any _ _).mono ?_; rw [Hsh.out]; rintro e w1 ⟨rfl, rfl⟩))
        all_goals
          go_ret
          refine ⟨ret_bool ?_, (Fr.refl _ _).alloc _⟩
          rw [Bool.eq_iff_iff]
          simp [callRightB, rightB, shape, hn]
          try omega
      · have hsh : shape 9 = ([117, 117], true) := by decide
        have Hsh := Lib.hid hsh
        clear hsh
        go_enter Tryz.func14, Tryz.ntmps14
        go_wp2_with (go_at_call 35; go_must (refine (callShape_any _ _).mono ?_; rw [Hsh.out]; rintro e w1 ⟨rfl, rfl⟩))
        all_goals
          go_ret
          refine ⟨ret_bool ?_, (Fr.refl _ _).alloc _⟩
          rw [Bool.eq_iff_iff]
          simp [callRightB, rightB, shape, hn]
          try omega
      · have hsh : shape 12 = ([117, 117], true) := by decide
        have Hsh := Lib.hid hsh
        clear hsh
        go_enter Tryz.func14, Tryz.ntmps14
        go_wp2_with (go_at_call 35; go_must (refine (callShape_any _ _).mono ?_; rw [Hsh.out]; rintro e w1 ⟨rfl, rfl⟩))
        all_goals
          go_ret
          refine ⟨ret_bool ?_, (Fr.refl _ _).alloc _⟩
          rw [Bool.eq_iff_iff]
          simp [callRightB, rightB, shape, hn]
          try omega
      · have hsh : shape 20 = ([117, 117], true) := by decide
        have Hsh := Lib.hid hsh
        clear hsh
        go_enter Tryz.func14, Tryz.ntmps14
        go_wp2_with (go_at_call 35; go_must (refine (callShape_any _ _).mono ?_; rw [Hsh.out]; rintro e w1 ⟨rfl, rfl⟩))
        all_goals
          go_ret
          refine ⟨ret_bool ?_, (Fr.refl _ _).alloc _⟩
          rw [Bool.eq_iff_iff]
          simp [callRightB, rightB, shape, hn]
          try omega
      · have hsh : shape 6 = ([117], true) := by decide
        have Hsh := Lib.hid hsh
        clear hsh
        go_enter Tryz.func14, Tryz.ntmps14
        go_wp2_with (go_at_call 35; go_must (refine (callShape_any _ _).mono ?_; rw [Hsh.out]; rintro e w1 ⟨rfl, rfl⟩))
        all_goals
          go_ret
          refine ⟨ret_bool ?_, (Fr.refl _ _).alloc _⟩
          rw [Bool.eq_iff_iff]
          simp [callRightB, rightB, shape, hn]
          try omega
      · have hsh : shape 7 = ([117], true) := by decide
        have Hsh := Lib.hid hsh
        clear hsh
        go_enter Tryz.func14, Tryz.ntmps14
        go_wp2_with (go_at_call 35; go_must (refine (callShape_any _ _).mono ?_; rw [Hsh.out]; rintro e w1 ⟨rfl, rfl⟩))
        all_goals
          go_ret
          refine ⟨ret_bool ?_, (Fr.refl _ _).alloc _⟩
          rw [Bool.eq_iff_iff]
          simp [callRightB, rightB, shape, hn]
          try omega
      · have hsh : shape 8 = ([117], true) := by decide
        have Hsh := Lib.hid hsh
        clear hsh
        go_enter Tryz.func14, Tryz.ntmps14
        go_wp2_with (go_at_call 35; go_must (refine (callShape_any _ _).mono ?_; rw [Hsh.out]; rintro e w1 ⟨rfl, rfl⟩))
        all_goals
          go_ret
          refine ⟨ret_bool ?_, (Fr.refl _ _).alloc _⟩
          rw [Bool.eq_iff_iff]
          simp [callRightB, rightB, shape, hn]
          try omega
      · have hsh : shape 13 = ([117], true) := by decide
        have Hsh := Lib.hid hsh
        clear hsh
        go_enter Tryz.func14, Tryz.ntmps14
        go_wp2_with (go_at_call 35; go_must (refine (callShape_any _ _).mono ?_; rw [Hsh.out]; rintro e w1 ⟨rfl, rfl⟩))
        all_goals
          go_ret
          refine ⟨ret_bool ?_, (Fr.refl _ _).alloc _⟩
          rw [Bool.eq_iff_iff]
          simp [callRightB, rightB, shape, hn]
          try omega
      · have hsh : shape 14 = ([117], true) := by decide
        have Hsh := Lib.hid hsh
        clear hsh
        go_enter Tryz.func14, Tryz.ntmps14
        go_wp2_with (go_at_call 35; go_must (refine (callShape_any _ _).mono ?_; rw [Hsh.out]; rintro e w1 ⟨rfl, rfl⟩))
        all_goals
          go_ret
          refine ⟨ret_bool ?_, (Fr.refl _ _).alloc _⟩
          rw [Bool.eq_iff_iff]
          simp [callRightB, rightB, shape, hn]
          try omega
      · have hsh : shape 15 = ([98], true) := by decide
        have Hsh := Lib.hid hsh
        clear hsh
        go_enter Tryz.func14, Tryz.ntmps14
        go_wp2_with (go_at_call 35; go_must (refine (callShape_any _ _).mono ?_; rw [Hsh.out]; rintro e w1 ⟨rfl, rfl⟩))
        all_goals
          go_ret
          refine ⟨ret_bool ?_, (Fr.refl _ _).alloc _⟩
          rw [Bool.eq_iff_iff]
          simp [callRightB, rightB, shape, hn]
          try omega
      · have hsh : shape 16 = ([117, 98], true) := by decide
        have Hsh := Lib.hid hsh
        clear hsh
        go_enter Tryz.func14, Tryz.ntmps14
        go_wp2_with (go_at_call 35; go_must (refine (callShape_any _ _).mono ?_; rw [Hsh.out]; rintro e w1 ⟨rfl, rfl⟩))
        all_goals
          go_ret
          refine ⟨ret_bool ?_, (Fr.refl _ _).alloc _⟩
          rw [Bool.eq_iff_iff]
          simp [callRightB, rightB, shape, hn]
          try omega
      · have hsh : shape 22 = ([117, 98], true) := by decide
        have Hsh := Lib.hid hsh
        clear hsh
        go_enter Tryz.func14, Tryz.ntmps14
        go_wp2_with (go_at_call 35; go_must (refine (callShape_any _ _).mono ?_; rw [Hsh.out]; rintro e w1 ⟨rfl, rfl⟩))
        all_goals
          go_ret
          refine ⟨ret_bool ?_, (Fr.refl _ _).alloc _⟩
          rw [Bool.eq_iff_iff]
          simp [callRightB, rightB, shape, hn]
          try omega
      · have hsh : shape 17 = ([117, 115], true) := by decide
        have Hsh := Lib.hid hsh
        clear hsh
        go_enter Tryz.func14, Tryz.ntmps14
        go_wp2_with (go_at_call 35; go_must (refine (callShape_any _ _).mono ?_; rw [Hsh.out]; rintro e w1 ⟨rfl, rfl⟩))
        all_goals
          go_ret
          refine ⟨ret_bool ?_, (Fr.refl _ _).alloc _⟩
          rw [Bool.eq_iff_iff]
          simp [callRightB, rightB, shape, hn]
          try omega
      · have hsh : shape 18 = ([117, 115], true) := by decide
        have Hsh := Lib.hid hsh
        clear hsh
        go_enter Tryz.func14, Tryz.ntmps14
        go_wp2_with (go_at_call 35; go_must (refine (callShape_any _ _).mono ?_; rw [Hsh.out]; rintro e w1 ⟨rfl, rfl⟩))
        all_goals
          go_ret
          refine ⟨ret_bool ?_, (Fr.refl _ _).alloc _⟩
          rw [Bool.eq_iff_iff]
          simp [callRightB, rightB, shape, hn]
          try omega
      · have hsh : shape 21 = ([117, 115], true) := by decide
        have Hsh := Lib.hid hsh
        clear hsh
        go_enter Tryz.func14, Tryz.ntmps14
        go_wp2_with (go_at_call 35; go_must (refine (callShape_any _ _).mono ?_; rw [Hsh.out]; rintro e w1 ⟨rfl, rfl⟩))
        all_goals
          go_ret
          refine ⟨ret_bool ?_, (Fr.refl _ _).alloc _⟩
          rw [Bool.eq_iff_iff]
          simp [callRightB, rightB, shape, hn]
          try omega
      · have hsh : shape 19 = ([115], true) := by decide
        have Hsh := Lib.hid hsh
        clear hsh
        go_enter Tryz.func14, Tryz.ntmps14
        go_wp2_with (go_at_call 35; go_must (refine (callShape_any _ _).mono ?_; rw [Hsh.out]; rintro e w1 ⟨rfl, rfl⟩))
        all_goals
          go_ret
          refine ⟨ret_bool ?_, (Fr.refl _ _).alloc _⟩
          rw [Bool.eq_iff_iff]
          simp [callRightB, rightB, shape, hn]
          try omega
end Go.Proofs.YtahohmdfllgedaaGreat
