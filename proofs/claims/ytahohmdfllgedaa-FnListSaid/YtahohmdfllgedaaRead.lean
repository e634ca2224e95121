/- What came in, as plain data: call frame instructions, frames, common entries; how the memory at the start (W) holds them. -/
import Derived.Test.YtahohmdfllgedaaBase
namespace Go.Proofs.Ytahohmdfllgedaa
open Go.RowKit

/-- A slice value whose elements take 'size' cells each: element i's cells hold what R says of l[i]. -/
def RSl {α : Type} (size : Nat) (R : List Value → α → Prop) (W : World) (v : Value) (l : List α) : Prop :=
  (v = .slice none 0 0 ∧ l = []) ∨
  ∃ x c, v = .slice (some x) l.length c ∧ l.length ≤ c ∧ c ≤ maxLen ∧
    ∀ i (h : i < l.length), ∃ vs, vs.length = size ∧ R vs l[i] ∧ ∀ j u, vs[j]? = some u → W.cell? (x.add (i * size + j)) = some u

theorem RSl.shape {α : Type} {size : Nat} {R : List Value → α → Prop} {W : World} {v : Value} {l : List α} (h : RSl size R W v l) :
    ∃ a c, v = .slice a l.length c ∧ l.length ≤ c ∧ c ≤ 9223372036854775807 := by
  rcases h with ⟨rfl, rfl⟩ | ⟨x, c, rfl, h1, h2, _⟩
  · exact ⟨none, 0, rfl, Nat.le_refl _, by omega⟩
  · exact ⟨some x, c, rfl, h1, by unfold maxLen at h2; omega⟩

/-- Where there is an element: the slice leads into a row of cells. -/
theorem RSl.elem {α : Type} {size : Nat} {R : List Value → α → Prop} {W : World} {a : Option Addr} {n c : Nat} {l : List α} (h : RSl size R W (.slice a n c) l) (hsz : 0 < size) (hl : 0 < l.length) :
    ∃ g o, a = some ⟨g, o, none⟩ ∧ g < W.heap.size ∧ ∀ i (h : i < l.length), ∃ vs, vs.length = size ∧ R vs l[i] ∧ ∀ j u, vs[j]? = some u → W.cell? ⟨g, o + i * size + j, none⟩ = some u := by
  rcases h with ⟨_, rfl⟩ | ⟨x, c', hv, h1, h2, h3⟩
  · simp at hl
  · simp only [Value.slice.injEq] at hv
    obtain ⟨rfl, -, -⟩ := hv
    obtain ⟨vs, hvl, -, hcell⟩ := h3 0 hl
    have h0 := hcell 0 (vs[0]'(by omega)) (List.getElem?_eq_getElem (by omega))
    rw [Nat.zero_mul, Nat.add_zero, Addr.add, if_pos rfl] at h0
    obtain ⟨g, o, spot⟩ := x
    have hs : spot = none := World.cell?_spot h0
    subst hs
    refine ⟨g, o, rfl, World.block_lt_of_cell? W _ h0, fun i hi => ?_⟩
    obtain ⟨vs, hvl, hR, hcell⟩ := h3 i hi
    refine ⟨vs, hvl, hR, fun j u hj => ?_⟩
    have := hcell j u hj
    rwa [Addr.add_lit, ← Nat.add_assoc] at this

/-- An instruction of a call frame. -/
structure LCall where
  op : Int
  a : Int
  b : Int
  data : List UInt8
/-- A frame description entry. -/
structure LFrame where
  start : Nat
  size : Nat
  calls : List LCall
/-- A common information entry with its frames. -/
structure LCommon where
  version : Int
  code : Nat
  offset : Int
  ret : Int
  calls : List LCall
  frames : List LFrame

def i64 (n : Int) : Prop := -9223372036854775808 ≤ n ∧ n ≤ 9223372036854775807

def RCall (W : World) (vs : List Value) (c : LCall) : Prop :=
  ∃ dv, vs = [.int .i64 c.op, .int .i64 c.a, .int .i64 c.b, dv] ∧ Sl W dv (vbs c.data) ∧ i64 c.op ∧ i64 c.a ∧ i64 c.b
def RFrame (W : World) (vs : List Value) (f : LFrame) : Prop :=
  ∃ cv, vs = [.int .u64 (f.start : Int), .int .u64 (f.size : Int), cv] ∧ RSl 4 (RCall W) W cv f.calls ∧ f.start < 18446744073709551616 ∧ f.size < 18446744073709551616
def RCommon (W : World) (vs : List Value) (c : LCommon) : Prop :=
  ∃ cv fv, vs = [.int .i64 c.version, .int .u64 (c.code : Int), .int .i64 c.offset, .int .i64 c.ret, cv, fv] ∧ RSl 4 (RCall W) W cv c.calls ∧ RSl 3 (RFrame W) W fv c.frames ∧
    i64 c.version ∧ c.code < 18446744073709551616 ∧ i64 c.offset ∧ i64 c.ret
/-- The input of the statements about call frame information. -/
def RList (W : World) (v : Value) (l : List LCommon) : Prop := RSl 6 (RCommon W) W v l

theorem sl_form {W : World} {v : Value} {l : List UInt8} (h : Sl W v (vbs l)) : ∃ a c, v = .slice a l.length c := by
  rcases h with ⟨rfl, hd⟩ | ⟨x, c, rfl, _, _, _⟩
  · have : l = [] := by simpa using hd
    rw [this]; exact ⟨none, 0, rfl⟩
  · exact ⟨some x, c, by simp⟩
theorem rsl_form {α : Type} {size : Nat} {R : List Value → α → Prop} {W : World} {v : Value} {l : List α} (h : RSl size R W v l) : ∃ a c, v = .slice a l.length c := by
  obtain ⟨a, c, h, _⟩ := h.shape; exact ⟨a, c, h⟩

/-- Instruction k, read in a later world. -/
theorem call_at {W wr : World} {a : Option Addr} {n c : Nat} {l : List LCall} (h : RSl 4 (RCall W) W (.slice a n c) l) (f : Fr [] W wr) (k : Nat) (hk : k < l.length) :
    ∃ g o da dc, a = some ⟨g, o, none⟩ ∧ wr.cell? ⟨g, o + k * 4, none⟩ = some (.int .i64 l[k].op) ∧ wr.cell? ⟨g, o + k * 4 + 1, none⟩ = some (.int .i64 l[k].a) ∧
      wr.cell? ⟨g, o + k * 4 + 2, none⟩ = some (.int .i64 l[k].b) ∧ wr.cell? ⟨g, o + k * 4 + 3, none⟩ = some (.slice da l[k].data.length dc) ∧
      Sl W (.slice da l[k].data.length dc) (vbs l[k].data) ∧ i64 l[k].op ∧ i64 l[k].a ∧ i64 l[k].b := by
  obtain ⟨g, o, rfl, hg, hel⟩ := h.elem (by decide) (by omega)
  obtain ⟨vs, hvs, ⟨dv, rfl, hd, hb1, hb2, hb3⟩, hcell⟩ := hel k hk
  obtain ⟨da, dc, rfl⟩ := sl_form hd
  exact ⟨g, o, da, dc, rfl, f.cell (hcell 0 _ rfl) (by simp), f.cell (hcell 1 _ rfl) (by simp), f.cell (hcell 2 _ rfl) (by simp), f.cell (hcell 3 _ rfl) (by simp), hd, hb1, hb2, hb3⟩
/-- Frame k. -/
theorem frame_at {W wr : World} {a : Option Addr} {n c : Nat} {l : List LFrame} (h : RSl 3 (RFrame W) W (.slice a n c) l) (f : Fr [] W wr) (k : Nat) (hk : k < l.length) :
    ∃ g o da dc, a = some ⟨g, o, none⟩ ∧ wr.cell? ⟨g, o + k * 3, none⟩ = some (.int .u64 (l[k].start : Int)) ∧ wr.cell? ⟨g, o + k * 3 + 1, none⟩ = some (.int .u64 (l[k].size : Int)) ∧
      wr.cell? ⟨g, o + k * 3 + 2, none⟩ = some (.slice da l[k].calls.length dc) ∧
      RSl 4 (RCall W) W (.slice da l[k].calls.length dc) l[k].calls ∧ l[k].start < 18446744073709551616 ∧ l[k].size < 18446744073709551616 := by
  obtain ⟨g, o, rfl, hg, hel⟩ := h.elem (by decide) (by omega)
  obtain ⟨vs, hvs, ⟨dv, rfl, hd, hb1, hb2⟩, hcell⟩ := hel k hk
  obtain ⟨da, dc, rfl⟩ := rsl_form hd
  exact ⟨g, o, da, dc, rfl, f.cell (hcell 0 _ rfl) (by simp), f.cell (hcell 1 _ rfl) (by simp), f.cell (hcell 2 _ rfl) (by simp), hd, hb1, hb2⟩
/-- Entry k. -/
theorem common_at {W wr : World} {a : Option Addr} {n c : Nat} {l : List LCommon} (h : RList W (.slice a n c) l) (f : Fr [] W wr) (k : Nat) (hk : k < l.length) :
    ∃ g o ca cc fa fc, a = some ⟨g, o, none⟩ ∧ wr.cell? ⟨g, o + k * 6, none⟩ = some (.int .i64 l[k].version) ∧ wr.cell? ⟨g, o + k * 6 + 1, none⟩ = some (.int .u64 (l[k].code : Int)) ∧
      wr.cell? ⟨g, o + k * 6 + 2, none⟩ = some (.int .i64 l[k].offset) ∧ wr.cell? ⟨g, o + k * 6 + 3, none⟩ = some (.int .i64 l[k].ret) ∧
      wr.cell? ⟨g, o + k * 6 + 4, none⟩ = some (.slice ca l[k].calls.length cc) ∧ wr.cell? ⟨g, o + k * 6 + 5, none⟩ = some (.slice fa l[k].frames.length fc) ∧
      RSl 4 (RCall W) W (.slice ca l[k].calls.length cc) l[k].calls ∧ RSl 3 (RFrame W) W (.slice fa l[k].frames.length fc) l[k].frames ∧
      i64 l[k].version ∧ l[k].code < 18446744073709551616 ∧ i64 l[k].offset ∧ i64 l[k].ret := by
  obtain ⟨g, o, rfl, hg, hel⟩ := RSl.elem h (by decide) (by omega)
  obtain ⟨vs, hvs, ⟨cv, fv, rfl, hd, he, hb1, hb2, hb3, hb4⟩, hcell⟩ := hel k hk
  obtain ⟨ca, cc, rfl⟩ := rsl_form hd
  obtain ⟨fa, fc, rfl⟩ := rsl_form he
  exact ⟨g, o, ca, cc, fa, fc, rfl, f.cell (hcell 0 _ rfl) (by simp), f.cell (hcell 1 _ rfl) (by simp), f.cell (hcell 2 _ rfl) (by simp), f.cell (hcell 3 _ rfl) (by simp), f.cell (hcell 4 _ rfl) (by simp),
    f.cell (hcell 5 _ rfl) (by simp), hd, he, hb1, hb2, hb3, hb4⟩

theorem all_take_succ {α : Type} (p : α → Bool) (l : List α) (k : Nat) (hk : k < l.length) : (l.take (k + 1)).all p = ((l.take k).all p && p l[k]) := by
  rw [List.take_succ_eq_append_getElem hk, List.all_append]; simp
theorem all_false {α : Type} (p : α → Bool) (l : List α) (k : Nat) (hk : k < l.length) (h : p l[k] = false) : l.all p = false := by
  rw [List.all_eq_false]; exact ⟨l[k], List.getElem_mem _, by simp [h]⟩

end Go.Proofs.Ytahohmdfllgedaa
