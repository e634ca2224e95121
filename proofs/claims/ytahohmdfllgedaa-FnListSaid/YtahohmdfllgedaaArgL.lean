/- What comes in as call frame information: its data, opened. -/
import Derived.Test.YtahohmdfllgedaaArg
import Derived.Test.YtahohmdfllgedaaRead
import Derived.Deep.Slices
import Derived.Deep.Fields
import Derived.ChangeSame
namespace Go.Proofs.Ytahohmdfllgedaa
open Go.ChangeShapes Go.WideShapes Go.Deep Go.RowKit

/-- A slice argument whose elements are structs of one-cell fields: nil, or each element's field reads by itself. -/
theorem slice_fields {H : Type} {enc : TypeId × Value → H} {P : Program} {W : World} {base : Nat} {spare : Nat → Bool} {held : Bool} {t e : TypeId} {fs : Array Field} {fuel : Nat} {v : Value} {x : DataW H × List MemPlace}
    (ht : P.underlying t = some (.slice e)) (he : P.underlying e = some (.struct fs)) (hone : oneCellFields P fs = true) (hC : P.cellsOf e = fs.size) (h : DataW.trod enc P W base spare held fuel t [v] = some x) :
    v = .slice none 0 0 ∨ ∃ a len cap, v = .slice (some a) len cap ∧ len ≤ cap ∧ cap ≤ maxLen ∧
      ∀ i, i < len → ∀ (j : Nat) (f : Field), fs[j]? = some f → ∃ u y n, W.cell? (a.add (i * fs.size + j)) = some u ∧ DataW.trod enc P W base spare held n f.type [u] = some y := by
  rcases open_slice ht h with ⟨hv, -⟩ | ⟨a, len, cap, m, n, D, Pl, hv, -, hl, hm, hmm, -, hel⟩
  · exact .inl (by simpa using hv)
  · refine .inr ⟨a, len, cap, by simpa using hv, hl, hm, fun i hi j f hj => ?_⟩
    have him : i < m := by rw [hmm]; split <;> omega
    obtain ⟨cs, hcells, htr⟩ := hel i him
    rw [hC] at hcells
    obtain ⟨-, hlen, hat⟩ := World.cells?_some hcells
    obtain ⟨xs, k, -, -, -, hxl, hfd⟩ := DataW.trod_struct he htr
    obtain ⟨hoff, hsz⟩ := hone_of hone j f hj
    have hjl : j < fs.size := (Array.getElem?_eq_some_iff.1 hj).1
    have hjc : j < cs.length := by omega
    have hone1 : (cs.drop j).take 1 = [cs[j]] := by rw [List.drop_eq_getElem_cons hjc]; rfl
    have hread := hfd j f hj
    rw [hoff, hsz, hone1, List.getElem?_eq_getElem (by omega)] at hread
    refine ⟨cs[j], _, k, ?_, hread⟩
    rw [← Go.Deep.add_add, hat j hjl, List.getElem?_eq_getElem hjc]

section
variable {H : Type} {enc : TypeId × Value → H} {W : World} {base : Nat} {spare : Nat → Bool} {held : Bool}
theorem arg_bytes1 {fuel : Nat} {v : Value} {x : DataW H × List MemPlace} (hf : DataW.trod enc Try.prog W base spare held fuel 23 [v] = some x) : ∃ l : List UInt8, Sl W v (vbs l) := by
  rcases open_ints Try.underlying23 Try.underlying5 (by kernel_rfl) hf with ⟨hcs, _⟩ | ⟨x, n, c, zs, hcs, _⟩
  · simp at hcs; subst hcs; exact ⟨[], .inl ⟨rfl, rfl⟩⟩
  · simp at hcs; subst hcs
    obtain ⟨l, hl, hs⟩ := arg_bytes hf
    exact ⟨l, hs⟩
theorem arg_int {fuel : Nat} {k : IntKind} {t : TypeId} {v : Value} {x : DataW H × List MemPlace} (ht : Try.prog.underlying t = some (.int k)) (hf : DataW.trod enc Try.prog W base spare held fuel t [v] = some x) : ∃ n, v = .int k n ∧ (Lit.int k n).wf = true := by
  obtain ⟨n, hcs, -, hw⟩ := DataW.trod_int ht hf
  simp at hcs
  exact ⟨n, hcs, hw⟩

/-- From what each element holds to the list. -/
theorem rsl_of {α : Type} {size : Nat} {R : List Value → α → Prop} {a : Addr} {len cap : Nat} (h1 : len ≤ cap) (h2 : cap ≤ maxLen)
    (h : ∀ i, i < len → ∃ (vs : List Value) (y : α), vs.length = size ∧ R vs y ∧ ∀ j u, vs[j]? = some u → W.cell? (a.add (i * size + j)) = some u) :
    ∃ l : List α, l.length = len ∧ RSl size R W (.slice (some a) len cap) l := by
  have h' : ∀ i : Fin len, ∃ y : α, ∃ vs : List Value, vs.length = size ∧ R vs y ∧ ∀ j u, vs[j]? = some u → W.cell? (a.add (i.val * size + j)) = some u := fun i => by
    obtain ⟨vs, y, h⟩ := h i.val i.isLt; exact ⟨y, vs, h⟩
  obtain ⟨f, hf⟩ := Classical.axiomOfChoice h'
  refine ⟨List.ofFn f, by simp, .inr ⟨a, cap, by simp, by simpa using h1, h2, fun i hi => ?_⟩⟩
  have hi' : i < len := by simpa using hi
  obtain ⟨vs, h1, h2, h3⟩ := hf ⟨i, hi'⟩
  exact ⟨vs, h1, by simpa using h2, h3⟩

theorem arg_calls {fuel : Nat} {v : Value} {x : DataW H × List MemPlace} (hf : DataW.trod enc Try.prog W base spare held fuel 41 [v] = some x) : ∃ l : List LCall, RSl 4 (RCall W) W v l := by
  rcases slice_fields Try.underlying41 Try.underlying86 (by kernel_rfl) (by kernel_rfl) hf with rfl | ⟨a, len, cap, rfl, hl, hm, hi⟩
  · exact ⟨[], .inl ⟨rfl, rfl⟩⟩
  · obtain ⟨l, -, hr⟩ := rsl_of (size := 4) (R := RCall W) hl hm (fun i hil => by
      have hfd := hi i hil
      obtain ⟨v0, y0, k0, c0, t0⟩ := hfd 0 _ rfl
      obtain ⟨v1, y1, k1, c1, t1⟩ := hfd 1 _ rfl
      obtain ⟨v2, y2, k2, c2, t2⟩ := hfd 2 _ rfl
      obtain ⟨v3, y3, k3, c3, t3⟩ := hfd 3 _ rfl
      obtain ⟨n0, rfl, w0⟩ := arg_int Try.underlying3 t0
      obtain ⟨n1, rfl, w1⟩ := arg_int Try.underlying2 t1
      obtain ⟨n2, rfl, w2⟩ := arg_int Try.underlying2 t2
      obtain ⟨lb, hs⟩ := arg_bytes1 t3
      refine ⟨[_, _, _, v3], ⟨n0, n1, n2, lb⟩, rfl, ⟨v3, rfl, hs, wf_bounds_i64 w0, wf_bounds_i64 w1, wf_bounds_i64 w2⟩, fun j u hj => ?_⟩
      match j, hj with
      | 0, hj => simp at hj; subst hj; exact c0
      | 1, hj => simp at hj; subst hj; exact c1
      | 2, hj => simp at hj; subst hj; exact c2
      | 3, hj => simp at hj; subst hj; exact c3)
    exact ⟨l, hr⟩
theorem arg_frames {fuel : Nat} {v : Value} {x : DataW H × List MemPlace} (hf : DataW.trod enc Try.prog W base spare held fuel 42 [v] = some x) : ∃ l : List LFrame, RSl 3 (RFrame W) W v l := by
  rcases slice_fields Try.underlying42 Try.underlying46 (by kernel_rfl) (by kernel_rfl) hf with rfl | ⟨a, len, cap, rfl, hl, hm, hi⟩
  · exact ⟨[], .inl ⟨rfl, rfl⟩⟩
  · obtain ⟨l, -, hr⟩ := rsl_of (size := 3) (R := RFrame W) hl hm (fun i hil => by
      have hfd := hi i hil
      obtain ⟨v0, y0, k0, c0, t0⟩ := hfd 0 _ rfl
      obtain ⟨v1, y1, k1, c1, t1⟩ := hfd 1 _ rfl
      obtain ⟨v2, y2, k2, c2, t2⟩ := hfd 2 _ rfl
      obtain ⟨n0, rfl, w0⟩ := arg_int Try.underlying22 t0
      obtain ⟨n1, rfl, w1⟩ := arg_int Try.underlying22 t1
      obtain ⟨lb, hs⟩ := arg_calls t2
      obtain ⟨m0, rfl⟩ := Int.eq_ofNat_of_zero_le (wf_bounds_u64 w0).1
      obtain ⟨m1, rfl⟩ := Int.eq_ofNat_of_zero_le (wf_bounds_u64 w1).1
      refine ⟨[_, _, v2], ⟨m0, m1, lb⟩, rfl, ⟨v2, rfl, hs, by have := (wf_bounds_u64 w0).2; show m0 < _; omega, by have := (wf_bounds_u64 w1).2; show m1 < _; omega⟩, fun j u hj => ?_⟩
      match j, hj with
      | 0, hj => simp at hj; subst hj; exact c0
      | 1, hj => simp at hj; subst hj; exact c1
      | 2, hj => simp at hj; subst hj; exact c2)
    exact ⟨l, hr⟩
theorem arg_commons {fuel : Nat} {v : Value} {x : DataW H × List MemPlace} (hf : DataW.trod enc Try.prog W base spare held fuel 35 [v] = some x) : ∃ l : List LCommon, RList W v l := by
  rcases slice_fields Try.underlying35 Try.underlying44 (by kernel_rfl) (by kernel_rfl) hf with rfl | ⟨a, len, cap, rfl, hl, hm, hi⟩
  · exact ⟨[], .inl ⟨rfl, rfl⟩⟩
  · obtain ⟨l, -, hr⟩ := rsl_of (size := 6) (R := RCommon W) hl hm (fun i hil => by
      have hfd := hi i hil
      obtain ⟨v0, y0, k0, c0, t0⟩ := hfd 0 _ rfl
      obtain ⟨v1, y1, k1, c1, t1⟩ := hfd 1 _ rfl
      obtain ⟨v2, y2, k2, c2, t2⟩ := hfd 2 _ rfl
      obtain ⟨v3, y3, k3, c3, t3⟩ := hfd 3 _ rfl
      obtain ⟨v4, y4, k4, c4, t4⟩ := hfd 4 _ rfl
      obtain ⟨v5, y5, k5, c5, t5⟩ := hfd 5 _ rfl
      obtain ⟨n0, rfl, w0⟩ := arg_int Try.underlying3 t0
      obtain ⟨n1, rfl, w1⟩ := arg_int Try.underlying22 t1
      obtain ⟨n2, rfl, w2⟩ := arg_int Try.underlying2 t2
      obtain ⟨n3, rfl, w3⟩ := arg_int Try.underlying3 t3
      obtain ⟨lc, hc⟩ := arg_calls t4
      obtain ⟨lf, hfr⟩ := arg_frames t5
      obtain ⟨m1, rfl⟩ := Int.eq_ofNat_of_zero_le (wf_bounds_u64 w1).1
      refine ⟨[_, _, _, _, v4, v5], ⟨n0, m1, n2, n3, lc, lf⟩, rfl, ⟨v4, v5, rfl, hc, hfr, wf_bounds_i64 w0, by have := (wf_bounds_u64 w1).2; show m1 < _; omega, wf_bounds_i64 w2, wf_bounds_i64 w3⟩, fun j u hj => ?_⟩
      match j, hj with
      | 0, hj => simp at hj; subst hj; exact c0
      | 1, hj => simp at hj; subst hj; exact c1
      | 2, hj => simp at hj; subst hj; exact c2
      | 3, hj => simp at hj; subst hj; exact c3
      | 4, hj => simp at hj; subst hj; exact c4
      | 5, hj => simp at hj; subst hj; exact c5)
    exact ⟨l, hr⟩
end
end Go.Proofs.Ytahohmdfllgedaa
