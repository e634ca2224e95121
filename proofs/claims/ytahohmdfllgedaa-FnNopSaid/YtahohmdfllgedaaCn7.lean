/- What comes in as call frame information: its data, opened.
What comes in as an expression and its world: its data, opened. -/
import Derived.Test.YtahohmdfllgedaaCa25
import Derived.Test.YtahohmdfllgedaaCa0
import Derived.Deep.Slices
import Derived.Deep.Fields
import Derived.ChangeSame
import Derived.Test.YtahohmdfllgedaaCa3
set_option linter.unusedVariables false
set_option linter.unusedSimpArgs false
namespace Go.Proofs.Ytahohmdfllgedaa
open Go.ChangeShapes Go.WideShapes Go.Deep Go.RowKit

/-- A slice argument whose elements are structs of one-cell fields: nil, or each element's field reads by itself. -/
theorem slice_fields {H : Type} {enc : TypeId × Value → H} {P : Program} {W : World} {base : Nat} {spare : Nat → Bool} {held : Bool} {t e : TypeId} {fs : Array Field} {fuel : Nat} {v : Value} {x : DataW H × List MemPlace}
    (ht : P.underlying t = some (.slice e)) (he : P.underlying e = some (.struct fs)) (hone : oneCellFields P fs = true) (hC : P.cellsOf e = fs.size) (h : DataW.trod enc P W base spare held fuel t [v] = some x) :
    v = .slice none 0 0 ∨ ∃ a len cap, v = .slice (some a) len cap ∧ len ≤ cap ∧ cap ≤ maxLen ∧
      ∀ i, i < len → ∀ (j : Nat) (f : Field), fs[j]? = some f → ∃ u y n, W.cell? (a.add (i * fs.size + j)) = some u ∧ DataW.trod enc P W base spare held n f.type [u] = some y := by
  rcases open_slice ht h with ⟨hv, -⟩ | ⟨a, len, cap, m, n, D, Pl, hv, -, hl, hm, hmm, -, hel⟩
  · exact .inl (by simpa using hv)
  · refine .inr ⟨a, len, cap, by simpa using hv, hl, hm, fun i hi j f hj => ?_⟩
    have him : i < m := by rw [hmm]; split <;> omega
    obtain ⟨cs, hcells, htr⟩ := hel i him
    rw [hC] at hcells
    obtain ⟨-, hlen, hat⟩ := World.cells?_some hcells
    obtain ⟨xs, k, -, -, -, hxl, hfd⟩ := DataW.trod_struct he htr
    obtain ⟨hoff, hsz⟩ := hone_of hone j f hj
    have hjl : j < fs.size := (Array.getElem?_eq_some_iff.1 hj).1
    have hjc : j < cs.length := by omega
    have hone1 : (cs.drop j).take 1 = [cs[j]] := by rw [List.drop_eq_getElem_cons hjc]; rfl
    have hread := hfd j f hj
    rw [hoff, hsz, hone1, List.getElem?_eq_getElem (by omega)] at hread
    refine ⟨cs[j], _, k, ?_, hread⟩
    rw [← Go.Deep.add_add, hat j hjl, List.getElem?_eq_getElem hjc]

section
variable {H : Type} {enc : TypeId × Value → H} {W : World} {base : Nat} {spare : Nat → Bool} {held : Bool}
theorem arg_bytes1 {fuel : Nat} {v : Value} {x : DataW H × List MemPlace} (hf : DataW.trod enc Try.prog W base spare held fuel 23 [v] = some x) : ∃ l : List UInt8, Sl W v (vbs l) := by
  rcases open_ints Try.underlying23 Try.underlying5 (by kernel_rfl) hf with ⟨hcs, _⟩ | ⟨x, n, c, zs, hcs, _⟩
  · simp at hcs; subst hcs; exact ⟨[], .inl ⟨rfl, rfl⟩⟩
  · simp at hcs; subst hcs
    obtain ⟨l, hl, hs⟩ := arg_bytes hf
    exact ⟨l, hs⟩
theorem arg_int {fuel : Nat} {k : IntKind} {t : TypeId} {v : Value} {x : DataW H × List MemPlace} (ht : Try.prog.underlying t = some (.int k)) (hf : DataW.trod enc Try.prog W base spare held fuel t [v] = some x) : ∃ n, v = .int k n ∧ (Lit.int k n).wf = true := by
  obtain ⟨n, hcs, -, hw⟩ := DataW.trod_int ht hf
  simp at hcs
  exact ⟨n, hcs, hw⟩

/-- From what each element holds to the list. -/
theorem rsl_of {α : Type} {size : Nat} {R : List Value → α → Prop} {a : Addr} {len cap : Nat} (h1 : len ≤ cap) (h2 : cap ≤ maxLen)
    (h : ∀ i, i < len → ∃ (vs : List Value) (y : α), vs.length = size ∧ R vs y ∧ ∀ j u, vs[j]? = some u → W.cell? (a.add (i * size + j)) = some u) :
    ∃ l : List α, l.length = len ∧ RSl size R W (.slice (some a) len cap) l := by
  have h' : ∀ i : Fin len, ∃ y : α, ∃ vs : List Value, vs.length = size ∧ R vs y ∧ ∀ j u, vs[j]? = some u → W.cell? (a.add (i.val * size + j)) = some u := fun i => by
    obtain ⟨vs, y, h⟩ := h i.val i.isLt; exact ⟨y, vs, h⟩
  obtain ⟨f, hf⟩ := Classical.axiomOfChoice h'
  refine ⟨List.ofFn f, by simp, .inr ⟨a, cap, by simp, by simpa using h1, h2, fun i hi => ?_⟩⟩
  have hi' : i < len := by simpa using hi
  obtain ⟨vs, h1, h2, h3⟩ := hf ⟨i, hi'⟩
  exact ⟨vs, h1, by simpa using h2, h3⟩

end
end Go.Proofs.Ytahohmdfllgedaa

namespace Go.Proofs.Ytahohmdfllgedaa
open Go.ChangeShapes Go.WideShapes Go.Deep Go.RowKit

section
variable {H : Type} {enc : TypeId × Value → H} {W : World} {base : Nat} {spare : Nat → Bool} {held : Bool}
/-- A struct of one-cell fields, by value: each field reads by itself. -/
theorem struct_fields {P : Program} {t : TypeId} {fs : Array Field} {fuel : Nat} {cs : List Value} {x : DataW H × List MemPlace} (ht : P.underlying t = some (.struct fs)) (hone : oneCellFields P fs = true) (hl : cs.length = fs.size)
    (h : DataW.trod enc P W base spare held fuel t cs = some x) : ∀ (j : Nat) (f : Field), fs[j]? = some f → ∃ u y n, cs[j]? = some u ∧ DataW.trod enc P W base spare held n f.type [u] = some y := by
  intro j f hj
  obtain ⟨xs, k, -, -, -, hxl, hfd⟩ := DataW.trod_struct ht h
  obtain ⟨hoff, hsz⟩ := hone_of hone j f hj
  have hjl : j < fs.size := (Array.getElem?_eq_some_iff.1 hj).1
  have hjc : j < cs.length := by omega
  have hone1 : (cs.drop j).take 1 = [cs[j]] := by rw [List.drop_eq_getElem_cons hjc]; rfl
  have hread := hfd j f hj
  rw [hoff, hsz, hone1, List.getElem?_eq_getElem (by omega)] at hread
  exact ⟨cs[j], _, k, List.getElem?_eq_getElem hjc, hread⟩
theorem arg_ops {fuel : Nat} {v : Value} {x : DataW H × List MemPlace} (hf : DataW.trod enc Try.prog W base spare held fuel 49 [v] = some x) : ∃ l : List LCall, RSl 4 (RCall W) W v l := by
  rcases slice_fields Try.underlying49 Try.underlying48 (by kernel_rfl) (by kernel_rfl) hf with rfl | ⟨a, len, cap, rfl, hl, hm, hi⟩
  · exact ⟨[], .inl ⟨rfl, rfl⟩⟩
  · obtain ⟨l, -, hr⟩ := rsl_of (size := 4) (R := RCall W) hl hm (fun i hil => by
      have hfd := hi i hil
      obtain ⟨v0, y0, k0, c0, t0⟩ := hfd 0 _ rfl
      obtain ⟨v1, y1, k1, c1, t1⟩ := hfd 1 _ rfl
      obtain ⟨v2, y2, k2, c2, t2⟩ := hfd 2 _ rfl
      obtain ⟨v3, y3, k3, c3, t3⟩ := hfd 3 _ rfl
      obtain ⟨n0, rfl, w0⟩ := arg_int Try.underlying3 t0
      obtain ⟨n1, rfl, w1⟩ := arg_int Try.underlying2 t1
      obtain ⟨n2, rfl, w2⟩ := arg_int Try.underlying2 t2
      obtain ⟨lb, hs⟩ := arg_bytes1 t3
      refine ⟨[_, _, _, v3], ⟨n0, n1, n2, lb⟩, rfl, ⟨v3, rfl, hs, wf_bounds_i64 w0, wf_bounds_i64 w1, wf_bounds_i64 w2⟩, fun j u hj => ?_⟩
      match j, hj with
      | 0, hj => simp at hj; subst hj; exact c0
      | 1, hj => simp at hj; subst hj; exact c1
      | 2, hj => simp at hj; subst hj; exact c2
      | 3, hj => simp at hj; subst hj; exact c3)
    exact ⟨l, hr⟩
/-- An argument of type []uint64. -/
theorem arg_u64s {fuel : Nat} {v : Value} {x : DataW H × List MemPlace} (hf : DataW.trod enc Try.prog W base spare held fuel 37 [v] = some x) : ∃ l : List Nat, Sl W v (vus l) ∧ ∀ n ∈ l, n < 18446744073709551616 := by
  rcases open_ints Try.underlying37 Try.underlying22 (by kernel_rfl) hf with ⟨hcs, _⟩ | ⟨x, len, cap, zs, hcs, _, hl, hm, hz, _, hcell, hwz⟩
  · simp at hcs; subst hcs; exact ⟨[], .inl ⟨rfl, rfl⟩, by simp⟩
  · simp at hcs; subst hcs
    have hlen : len ≤ zs.length := by rw [hz]; split <;> omega
    have hb : ∀ z ∈ zs, 0 ≤ z ∧ z < 18446744073709551616 := fun z hzm => wf_bounds_u64 (hwz z hzm)
    refine ⟨(zs.take len).map Int.toNat, .inr ⟨x, cap, by simp [Nat.min_eq_left hlen], by simp [Nat.min_eq_left hlen, hl], hm, fun i u hi => ?_⟩, fun n hn => ?_⟩
    · have hil : i < len := by
        have := (List.getElem?_eq_some_iff.1 hi).1
        simp at this; omega
      rw [hcell i (by omega)]
      have hw := hb (zs[i]'(by omega)) (List.getElem_mem _)
      simp [hil, show i < zs.length by omega] at hi
      rw [← hi]
      simp only [List.getD, List.getElem?_eq_getElem (show i < zs.length by omega), Option.getD_some]
      congr 2
      omega
    · obtain ⟨z, hzm, rfl⟩ := List.mem_map.1 hn
      have := hb z (List.mem_of_mem_take hzm)
      omega
set_option maxRecDepth 100000 in
theorem arg_world {r : Reach} {b0 : Nat} {v : Value} {d : DataW H} {p : List MemPlace} (hv : Value.okWide Try.prog W r b0 52 v) (h : DataW.Trod enc Try.prog W base spare held 52 v d p) : ∃ rv mv x, v = worldV rv mv x ∧ RWorld W rv mv x := by
  obtain ⟨cs, rfl, hsz⟩ := okWide_struct Try.underlying52 hv
  have hC : Try.prog.cellsOf 52 = 5 := by kernel_rfl
  obtain ⟨l⟩ := cs
  match l, hsz.trans hC with
  | [v0, v1, v2, v3, v4], _ =>
    obtain ⟨fuel, hf⟩ := h
    have hfd := struct_fields Try.underlying52 (by kernel_rfl) (by rfl) hf
    obtain ⟨u0, y0, k0, c0, t0⟩ := hfd 0 _ rfl
    obtain ⟨u1, y1, k1, c1, t1⟩ := hfd 1 _ rfl
    obtain ⟨u2, y2, k2, c2, t2⟩ := hfd 2 _ rfl
    obtain ⟨u3, y3, k3, c3, t3⟩ := hfd 3 _ rfl
    obtain ⟨u4, y4, k4, c4, t4⟩ := hfd 4 _ rfl
    simp [Value.cells] at c0 c1 c2 c3 c4
    subst c0 c1 c2 c3 c4
    obtain ⟨lr, hr, hrb⟩ := arg_u64s t0
    obtain ⟨n1, rfl, w1⟩ := arg_int Try.underlying2 t1
    obtain ⟨n2, rfl, w2⟩ := arg_int Try.underlying2 t2
    obtain ⟨n3, rfl, w3⟩ := arg_int Try.underlying22 t3
    obtain ⟨lb, hs⟩ := arg_bytes1 t4
    obtain ⟨m3, rfl⟩ := Int.eq_ofNat_of_zero_le (wf_bounds_u64 w3).1
    exact ⟨v0, v4, ⟨lr, n1, n2, m3, lb⟩, rfl, ⟨hr, hrb, hs, wf_bounds_i64 w1, wf_bounds_i64 w2, by have := (wf_bounds_u64 w3).2; show m3 < _; omega⟩⟩
end
end Go.Proofs.Ytahohmdfllgedaa
