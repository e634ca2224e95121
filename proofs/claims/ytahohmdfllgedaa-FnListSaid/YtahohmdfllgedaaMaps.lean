/- A map with keys of an integer kind and values of whatever kind, as a partial function. No program in sight but at the laws for a step. -/
import Derived.Test.YtahohmdfllgedaaBase
import Derived.Maps.OwnOps
import Derived.Deep.RegionLaw
namespace Go.Proofs.Ytahohmdfllgedaa
open Go.RowKit Go.MapKept

/-- Block b is a map; f says what it holds. -/
def MapIs (w : World) (b : Nat) (K : IntKind) (f : Int → Option Value) : Prop :=
  ∃ es clock, w.heap[b]? = some (.map es clock) ∧ Stamped es clock ∧ (∀ x ∈ es.toList, IsKey (.int K) x.key) ∧ ∀ n v, f n = some v ↔ ∃ x ∈ es.toList, x.key = .int K n ∧ x.val = v

def upd (f : Int → Option Value) (n : Int) (v : Value) : Int → Option Value := fun k => if k = n then some v else f k

theorem MapIs.lt {w : World} {b : Nat} {K : IntKind} {f : Int → Option Value} (h : MapIs w b K f) : b < w.heap.size := by obtain ⟨_, _, h, _⟩ := h; exact lt_heap h
theorem MapIs.fr {bs : List Nat} {w w' : World} {b : Nat} {K : IntKind} {f : Int → Option Value} (h : MapIs w b K f) (hf : Fr bs w w') (hb : b ∉ bs) : MapIs w' b K f := by
  obtain ⟨es, c, h1, h2⟩ := h; exact ⟨es, c, hf.get h1 hb, h2⟩
theorem MapIs.empty {w : World} {b : Nat} (K : IntKind) (h : w.heap[b]? = some (.map #[] 0)) : MapIs w b K (fun _ => none) :=
  ⟨_, _, h, stamped_empty _, by simp, by simp⟩
theorem MapIs.congr {w : World} {b : Nat} {K : IntKind} {f g : Int → Option Value} (h : MapIs w b K f) (e : ∀ n, f n = g n) : MapIs w b K g := by
  have : f = g := funext e
  rw [← this]; exact h

theorem isKey_int {K : IntKind} {v : Value} (h : IsKey (.int K) v) : ∃ n, v = .int K n := by
  cases v <;> simp_all [IsKey]

theorem fr_setMap {w : World} {b : Nat} {o o' : Obj} (h : w.heap[b]? = some o) : Fr [b] w { w with heap := w.heap.setIfInBounds b o' } :=
  ⟨rfl, rfl, rfl, by simp, fun k hk hn => (heap_set h).2 k (by simpa using hn)⟩

section
variable {P : Program} {w : World} {b : Nat} {K : IntKind} {f : Int → Option Value} {T kt et : TypeId}
theorem MapIs.update (h : MapIs w b K f) (hm : P.underlying T = some (.map kt et)) (hd : P.underlying kt = some (.int K)) (n : Int) (v : Value) :
    ∃ w', (Instr.mapUpdate T (.map (some b)) (.int K n) v).run P w = .ok () w' ∧ MapIs w' b K (upd f n v) ∧ Fr [b] w w' := by
  obtain ⟨es, clock, hb, hs, hks, hf⟩ := h
  have hk : IsKey (.int K) (.int K n) := by simp [IsKey]
  rcases findNow_spec hk es.toList 0 hks with ⟨h1, h2⟩ | ⟨j, e, h1, h2, h3⟩
  · refine ⟨{ w with heap := w.heap.setIfInBounds b (.map (es.push { key := .int K n, val := v, born := clock }) (clock + 1)) }, ?_, ⟨_, _, (heap_set hb).1, stamped_push hs h2, ?_, ?_⟩, fr_setMap hb⟩
    · simp [Instr.mapUpdate, run_underlying hm, MapKept.run_getObj_map hb, run_checkKey hd hk, run_findKey hd h1, MapKept.run_setObj_map _ hb, Result.andThen]
    · intro x hx
      simp only [Array.toList_push, List.mem_append, List.mem_singleton] at hx
      rcases hx with hx | rfl
      · exact hks x hx
      · exact hk
    · intro k u
      simp only [Array.toList_push, List.mem_append, List.mem_singleton, upd]
      by_cases hkn : k = n
      · subst hkn
        simp only [if_true, Option.some.injEq]
        constructor
        · rintro rfl; exact ⟨_, .inr rfl, rfl, rfl⟩
        · rintro ⟨x, hx | rfl, hx1, rfl⟩
          · exact absurd hx1 (h2 x hx)
          · rfl
      · rw [if_neg hkn, hf]
        constructor
        · rintro ⟨x, hx, h⟩; exact ⟨x, .inl hx, h⟩
        · rintro ⟨x, hx | rfl, hx1, hx2⟩
          · exact ⟨x, hx, hx1, hx2⟩
          · simp at hx1; exact absurd hx1.symm hkn
  · have hj : es[j]? = some e := by simpa using h2
    have hkey : ∀ e', es[j]? = some e' → ({ e' with key := .int K n, val := v } : MapEntry).key = e'.key := fun e' he' => by rw [hj] at he'; cases he'; exact h3.symm
    have hs' := stamped_modify hs j (fun e => { e with key := .int K n, val := v }) (fun _ _ => rfl) (fun e' _ he' => hkey e' he')
    refine ⟨{ w with heap := w.heap.setIfInBounds b (.map (es.modify j fun e => { e with key := .int K n, val := v }) clock) }, ?_, ⟨_, _, (heap_set hb).1, hs', isKey_modify hks _ _ hkey, ?_⟩, fr_setMap hb⟩
    · simp [Instr.mapUpdate, run_underlying hm, MapKept.run_getObj_map hb, run_checkKey hd hk, run_findKey hd h1, hj, h3, run_keyThatStays hk, MapKept.run_setObj_map _ hb, Result.andThen]
    · have hmem : ∀ x, x ∈ (es.modify j fun e => { e with key := .int K n, val := v }).toList ↔ (x = { e with key := .int K n, val := v }) ∨ (x ∈ es.toList ∧ x.key ≠ .int K n) := by
        intro x
        have huniq : ∀ i y, es[i]? = some y → y.key = .int K n → i = j := by
          intro i y hy hyk
          have hnd := hs.2.2
          rw [List.nodup_iff_pairwise_ne, List.pairwise_iff_getElem] at hnd
          obtain ⟨hi, hy'⟩ := Array.getElem?_eq_some_iff.1 hy
          obtain ⟨hjl, hj'⟩ := Array.getElem?_eq_some_iff.1 hj
          rcases Nat.lt_trichotomy i j with hlt | heq | hgt
          · have := hnd i j (by simpa using hi) (by simpa using hjl) hlt
            simp [hy', hj', hyk, h3] at this
          · exact heq
          · have := hnd j i (by simpa using hjl) (by simpa using hi) hgt
            simp [hy', hj', hyk, h3] at this
        constructor
        · intro hx
          obtain ⟨i, hi, hxi⟩ := List.getElem_of_mem hx
          have hx? : (es.modify j fun e => { e with key := .int K n, val := v })[i]? = some x := by
            rw [← Array.getElem?_toList, List.getElem?_eq_getElem hi, hxi]
          rw [Array.getElem?_modify] at hx?
          by_cases hij : j = i
          · subst hij; rw [if_pos rfl, hj] at hx?; exact .inl (Option.some.inj hx?).symm
          · rw [if_neg hij] at hx?
            refine .inr ⟨?_, fun hk' => hij (huniq i x hx? hk').symm⟩
            rw [← Array.getElem?_toList] at hx?
            exact List.mem_of_getElem? hx?
        · rintro (rfl | ⟨hx, hk'⟩)
          · have : (es.modify j fun e => { e with key := .int K n, val := v })[j]? = some { e with key := .int K n, val := v } := by rw [Array.getElem?_modify, if_pos rfl, hj]; rfl
            rw [← Array.getElem?_toList] at this
            exact List.mem_of_getElem? this
          · obtain ⟨i, hi, hxi⟩ := List.getElem_of_mem hx
            have hx? : es[i]? = some x := by rw [← Array.getElem?_toList, List.getElem?_eq_getElem hi, hxi]
            have hij : j ≠ i := by rintro rfl; rw [hj] at hx?; obtain rfl := Option.some.inj hx?; exact hk' h3
            have : (es.modify j fun e => { e with key := .int K n, val := v })[i]? = some x := by rw [Array.getElem?_modify, if_neg hij, hx?]
            rw [← Array.getElem?_toList] at this
            exact List.mem_of_getElem? this
      intro k u
      simp only [hmem, upd]
      by_cases hkn : k = n
      · subst hkn
        simp only [if_true, Option.some.injEq]
        constructor
        · rintro rfl; exact ⟨_, .inl rfl, rfl, rfl⟩
        · rintro ⟨x, rfl | ⟨hx, hx2⟩, hx1, rfl⟩
          · rfl
          · exact absurd hx1 hx2
      · rw [if_neg hkn, hf]
        constructor
        · rintro ⟨x, hx, hx1, hx2⟩
          refine ⟨x, .inr ⟨hx, ?_⟩, hx1, hx2⟩
          rw [hx1]; simpa using hkn
        · rintro ⟨x, rfl | ⟨hx, _⟩, hx1, hx2⟩
          · simp at hx1; exact absurd hx1.symm hkn
          · exact ⟨x, hx, hx1, hx2⟩

theorem MapIs.lookup (h : MapIs w b K f) (hm : P.underlying T = some (.map kt et)) (hd : P.underlying kt = some (.int K)) (n : Int) (z : Value) (hz : (zeroValue et).run P w = .ok z w) (ok : Bool) :
    (Instr.lookup T (.map (some b)) (.int K n) ok).run P w = .ok (if ok then .tuple #[(f n).getD z, .bool (f n).isSome] else (f n).getD z) w := by
  obtain ⟨es, clock, hb, hs, hks, hf⟩ := h
  have hk : IsKey (.int K) (.int K n) := by simp [IsKey]
  rcases findNow_spec hk es.toList 0 hks with ⟨h1, h2⟩ | ⟨j, e, h1, h2, h3⟩
  · have hn : f n = none := by
      cases hfn : f n with
      | none => rfl
      | some v => obtain ⟨x, hx, hx1, _⟩ := (hf n v).1 hfn; exact absurd hx1 (h2 x hx)
    cases ok <;> simp [Instr.lookup, run_underlying hm, MapKept.run_getObj_map hb, run_checkKey hd hk, run_findKey hd h1, hz, hn, Result.andThen]
  · have hn : f n = some e.val := (hf n _).2 ⟨e, List.mem_of_getElem? h2, h3, rfl⟩
    cases ok <;> simp [Instr.lookup, run_underlying hm, MapKept.run_getObj_map hb, run_checkKey hd hk, run_findKey hd h1, hn, Result.andThen]

theorem MapIs.update_list {ops : Array Oper} {rest : List Oper} {o : Oper} {a : Act} {Q : Exit → Act → World → Prop} (h : MapIs w b K f) (hgd : o.guard = none) (m x v : Operand) (hop : o.op = Op.mapUpdate T m x v)
    (hm : P.underlying T = some (.map kt et)) (hd : P.underlying kt = some (.int K)) (n : Int) (u : Value) (h1 : a.eval m = .map (some b)) (h2 : a.eval x = .int K n) (h3 : a.eval v = u)
    (hK : ∀ w', MapIs w' b K (upd f n u) → Fr [b] w w' → wpList P ops Q rest (a.put o.dst undef) w') : wpList P ops Q (o :: rest) a w := by
  refine wpList_plain hgd fun K' hK' => ?_
  obtain ⟨w', hrun, r1, r2⟩ := h.update hm hd n u
  unfold Oper.wp
  simp [execOp, hop, h1, h2, h3, hrun, Result.andThen]
  exact hK' _ _ (hK w' r1 r2)

theorem MapIs.update_step {ops : Array Oper} {o : Oper} {a : Act} {K' : Act → World → Prop} {Q : Exit → Act → World → Prop} {E : Prop} (h : MapIs w b K f) (hgd : o.guard = none) (m x v : Operand) (hop : o.op = Op.mapUpdate T m x v)
    (hm : P.underlying T = some (.map kt et)) (hd : P.underlying kt = some (.int K)) (n : Int) (u : Value) (h1 : a.eval m = .map (some b)) (h2 : a.eval x = .int K n) (h3 : a.eval v = u)
    (hK : ∀ w', MapIs w' b K (upd f n u) → Fr [b] w w' → K' (a.put o.dst undef) w') :
    if Region.wanted o (yielded ops a.tmps) = true then Oper.wp P o a w K' Q else E := by
  have hw : Region.wanted o (yielded ops a.tmps) = true := by simp [Region.wanted, hgd]
  rw [if_pos hw]
  obtain ⟨w', hrun, r1, r2⟩ := h.update hm hd n u
  unfold Oper.wp
  simp [execOp, hop, h1, h2, h3, hrun, Result.andThen]
  exact hK w' r1 r2
end
end Go.Proofs.Ytahohmdfllgedaa
