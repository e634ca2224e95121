/- ReadString, where the text is empty.
A map with keys of an integer kind and values of whatever kind, as a partial function. No program in sight but at the laws for a step.
The parser of call frame information: its context, parselength.
parselength at a frame's entry.
What leb128.DecodeSigned over a plain buffer does.
The buffer's rest; parseCIE.
parseCIE.
addrSum, readEncodedPtr at the plain encoding. -/
import Derived.Test.YtahohmdfllgedaaGreatFa5
import Derived.Test.YtahohmdfllgedaaGreatFa1
import Derived.Test.YtahohmdfllgedaaGreatFa0
import Derived.Maps.OwnOps
import Derived.Deep.RegionLaw
set_option linter.unusedVariables false
set_option linter.unusedSimpArgs false
namespace Go.Proofs.YtahohmdfllgedaaGreat
open Go.RowKit

set_option maxRecDepth 100000 in
set_option maxHeartbeats 4000000 in
theorem BufReadString_empty (b : Nat) (v : Value) (l : List UInt8) (off : Nat) (rd : Bool) (w : World) (h : BufR w b v l off rd) (ho : off < l.length) (h0 : l[off] = 0) :
    Calls Tryz.prog 93 #[.pointer (some ⟨b, 0, none⟩), .int .u8 0] w fun e w' =>
      e = .returned (.tuple #[.string ⟨#[0]⟩, .nilIface]) ∧ BufR w' b v l (off + 1) true ∧ Fr [b] w w' := by
  obtain ⟨hb, hs, hne, -, hl⟩ := h
  obtain ⟨a, cc, rfl, h1, h2, h3, -⟩ := hs.shape
  obtain ⟨gs, os, rfl, hc⟩ := h3 (by omega)
  unfold maxLen at h2
  have c0 : w.cell? ⟨b, 0, none⟩ = some (.slice (some ⟨gs, os, none⟩) l.length cc) := by rw [blk_cell hb]; rfl
  have c1 : w.cell? ⟨b, 1, none⟩ = some (.int .i64 (off : Int)) := by rw [blk_cell hb]; rfl
  have c2 : w.cell? ⟨b, 2, none⟩ = some (.bool rd) := by rw [blk_cell hb]; rfl
  have g1 : w.frozen? ⟨b, 1, none⟩ = false := blk_free hb _
  have g2 : w.frozen? ⟨b, 2, none⟩ = false := blk_free hb _
  have cx : w.cell? ⟨gs, os + off, none⟩ = some (.int .u8 0) := by rw [cell_vb hc off ho, h0]; rfl
  have hsl : ∀ w', Fr [] w w' → Sl w' (.slice (some ⟨gs, os + off, none⟩) 1 (cc - off)) (vbs [0]) := fun w' f =>
    sl_mk rfl (by omega) (by unfold maxLen; omega) (fun i u hi => by
      cases i with
      | zero => simp at hi; subst hi; exact f.cell cx (by simp)
      | succ i => simp at hi)
  have HCV : Hid (∀ w', Fr [] w w' → (convert 26 9 (.slice (some ⟨gs, os + off, none⟩) 1 (cc - off))).run Tryz.prog w' = .ok (.string ⟨#[0]⟩) w') := fun w' f => conv_sl (hsl w' f)
  have Hb := Lib.hid hb
  have Hs := Lib.hid hs
  have Hne := Lib.hid hne
  have hlt : (off : Int) < (l.length : Int) := by omega
  have hcap : (off : Int) ≤ (cc : Int) := by omega
  have hcap1 : (off : Int) + 1 ≤ (cc : Int) := by omega
  have hcap2 : ¬ cc = off := by omega
  have E1 : Hid (IntKind.i64.wrap ((off : Int) + 1) = (off : Int) + 1) := IntWalk.i64_in _ (by omega)
  have E2 : Hid (((off : Int) + 1).toNat = off + 1) := by show _ = _; omega
  have E3 : Hid (off + 1 - off = 1) := by show _ = _; omega
  clear hb hs hne h1 h3 hc hsl h0
  go_enter Tryz.func93, Tryz.ntmps93
  go_wp2_with fail
  refine wp_loop_rounds 1 ?_
  rw [rounds_succ]
  go_wp2_with fail
  have e1 := E1.out
  have e2 := E2.out
  have e3 := E3.out
  have hb3 : (off : Int) ≤ (off : Int) + 1 := by omega
  have hb4 : (0 : Int) ≤ (off : Int) := by omega
  have hb5 : (0 : Int) ≤ (off : Int) + 1 := by omega
  go_region_held3 (fun w' => w'.cell? ⟨b, 0, none⟩ = some (.slice (some ⟨gs, os, none⟩) l.length cc) ∧ w'.cell? ⟨b, 1, none⟩ = some (.int .i64 (off : Int)) ∧
      (convert 26 9 (.slice (some ⟨gs, os + off, none⟩) 1 (cc - off))).run Tryz.prog w' = .ok (.string ⟨#[0]⟩) w')
    (exact ⟨c0, c1, HCV.out _ (Fr.drew (Fr.refl [] w))⟩) (fail)
  all_goals
    clear e1 e2 e3
    go_wp2_with fail
    go_ret2
    have f : Fr [b] w ((w.drew.setCell ⟨b, 1, none⟩ (.int .i64 ((off : Int) + 1))).setCell ⟨b, 2, none⟩ (.bool true)) := (((Fr.refl _ _).drew).setCell (.inl (by simp)) _).setCell (.inl (by simp)) _
    refine ⟨rfl, ⟨?_, Hs.out.fr f (by intro g hg; simp; rintro rfl; exact Hne.out hg), Hne.out, by omega, hl⟩, f⟩
    exact blk_set (w := w.setCell ⟨b, 1, none⟩ (.int .i64 ((off : Int) + 1))) (blk_set (w := w) Hb.out 1 _) 2 (.bool true)

set_option maxRecDepth 100000 in
set_option maxHeartbeats 4000000 in
theorem uReadString_empty (b : Nat) (v : Value) (l : List UInt8) (off : Nat) (rd : Bool) (w : World) (h : BufR w b v l off rd) (ho : off < l.length) (h0 : l[off] = 0) :
    Calls Tryz.prog 74 #[.pointer (some ⟨b, 0, none⟩)] w fun e w' =>
      e = .returned (.tuple #[.string ⟨#[]⟩, .nilIface]) ∧ BufR w' b v l (off + 1) true ∧ Fr [b] w w' := by
  have H := Lib.hid h
  have H0 := Lib.hid h0
  clear h h0
  go_enter Tryz.func74, Tryz.ntmps74
  go_wp2_with (go_at_call 93; refine (BufReadString_empty b v l off rd w H.out ho H0.out).mono ?_)
  rintro e w2 ⟨rfl, hb2, hf2⟩
  have Hb2 := Lib.hid hb2
  have Hf2 := Lib.hid hf2
  clear hb2 hf2
  go_wp2_with fail
  go_ret2
  exact ⟨rfl, Hb2.out, Hf2.out⟩
end Go.Proofs.YtahohmdfllgedaaGreat

namespace Go.Proofs.YtahohmdfllgedaaGreat
open Go.RowKit Go.MapKept

/-- Block b is a map; f says what it holds. -/
def MapIs (w : World) (b : Nat) (K : IntKind) (f : Int → Option Value) : Prop :=
  ∃ es clock, w.heap[b]? = some (.map es clock) ∧ Stamped es clock ∧ (∀ x ∈ es.toList, IsKey (.int K) x.key) ∧ ∀ n v, f n = some v ↔ ∃ x ∈ es.toList, x.key = .int K n ∧ x.val = v

def upd (f : Int → Option Value) (n : Int) (v : Value) : Int → Option Value := fun k => if k = n then some v else f k

theorem MapIs.lt {w : World} {b : Nat} {K : IntKind} {f : Int → Option Value} (h : MapIs w b K f) : b < w.heap.size := by obtain ⟨_, _, h, _⟩ := h; exact lt_heap h
theorem MapIs.fr {bs : List Nat} {w w' : World} {b : Nat} {K : IntKind} {f : Int → Option Value} (h : MapIs w b K f) (hf : Fr bs w w') (hb : b ∉ bs) : MapIs w' b K f := by
  obtain ⟨es, c, h1, h2⟩ := h; exact ⟨es, c, hf.get h1 hb, h2⟩
theorem MapIs.empty {w : World} {b : Nat} (K : IntKind) (h : w.heap[b]? = some (.map #[] 0)) : MapIs w b K (fun _ => none) :=
  ⟨_, _, h, stamped_empty _, by simp, by simp⟩
theorem MapIs.congr {w : World} {b : Nat} {K : IntKind} {f g : Int → Option Value} (h : MapIs w b K f) (e : ∀ n, f n = g n) : MapIs w b K g := by
  have : f = g := funext e
  rw [← this]; exact h

theorem isKey_int {K : IntKind} {v : Value} (h : IsKey (.int K) v) : ∃ n, v = .int K n := by
  cases v <;> simp_all [IsKey]

theorem fr_setMap {w : World} {b : Nat} {o o' : Obj} (h : w.heap[b]? = some o) : Fr [b] w { w with heap := w.heap.setIfInBounds b o' } :=
  ⟨rfl, rfl, rfl, by simp, fun k hk hn => (heap_set h).2 k (by simpa using hn)⟩

section
variable {P : Program} {w : World} {b : Nat} {K : IntKind} {f : Int → Option Value} {T kt et : TypeId}
theorem MapIs.update (h : MapIs w b K f) (hm : P.underlying T = some (.map kt et)) (hd : P.underlying kt = some (.int K)) (n : Int) (v : Value) :
    ∃ w', (Instr.mapUpdate T (.map (some b)) (.int K n) v).run P w = .ok () w' ∧ MapIs w' b K (upd f n v) ∧ Fr [b] w w' := by
  obtain ⟨es, clock, hb, hs, hks, hf⟩ := h
  have hk : IsKey (.int K) (.int K n) := by simp [IsKey]
  rcases findNow_spec hk es.toList 0 hks with ⟨h1, h2⟩ | ⟨j, e, h1, h2, h3⟩
  · refine ⟨{ w with heap := w.heap.setIfInBounds b (.map (es.push { key := .int K n, val := v, born := clock }) (clock + 1)) }, ?_, ⟨_, _, (heap_set hb).1, stamped_push hs h2, ?_, ?_⟩, fr_setMap hb⟩
    · simp [Instr.mapUpdate, run_underlying hm, MapKept.run_getObj_map hb, run_checkKey hd hk, run_findKey hd h1, MapKept.run_setObj_map _ hb, Result.andThen]
    · intro x hx
      simp only [Array.toList_push, List.mem_append, List.mem_singleton] at hx
      rcases hx with hx | rfl
      · exact hks x hx
      · exact hk
    · intro k u
      simp only [Array.toList_push, List.mem_append, List.mem_singleton, upd]
      by_cases hkn : k = n
      · subst hkn
        simp only [if_true, Option.some.injEq]
        constructor
        · rintro rfl; exact ⟨_, .inr rfl, rfl, rfl⟩
        · rintro ⟨x, hx | rfl, hx1, rfl⟩
          · exact absurd hx1 (h2 x hx)
          · rfl
      · rw [if_neg hkn, hf]
        constructor
        · rintro ⟨x, hx, h⟩; exact ⟨x, .inl hx, h⟩
        · rintro ⟨x, hx | rfl, hx1, hx2⟩
          · exact ⟨x, hx, hx1, hx2⟩
          · simp at hx1; exact absurd hx1.symm hkn
  · have hj : es[j]? = some e := by simpa using h2
    have hkey : ∀ e', es[j]? = some e' → ({ e' with key := .int K n, val := v } : MapEntry).key = e'.key := fun e' he' => by rw [hj] at he'; cases he'; exact h3.symm
    have hs' := stamped_modify hs j (fun e => { e with key := .int K n, val := v }) (fun _ _ => rfl) (fun e' _ he' => hkey e' he')
    refine ⟨{ w with heap := w.heap.setIfInBounds b (.map (es.modify j fun e => { e with key := .int K n, val := v }) clock) }, ?_, ⟨_, _, (heap_set hb).1, hs', isKey_modify hks _ _ hkey, ?_⟩, fr_setMap hb⟩
    · simp [Instr.mapUpdate, run_underlying hm, MapKept.run_getObj_map hb, run_checkKey hd hk, run_findKey hd h1, hj, h3, run_keyThatStays hk, MapKept.run_setObj_map _ hb, Result.andThen]
    · have hmem : ∀ x, x ∈ (es.modify j fun e => { e with key := .int K n, val := v }).toList ↔ (x = { e with key := .int K n, val := v }) ∨ (x ∈ es.toList ∧ x.key ≠ .int K n) := by
        intro x
        have huniq : ∀ i y, es[i]? = some y → y.key = .int K n → i = j := by
          intro i y hy hyk
          have hnd := hs.2.2
          rw [List.nodup_iff_pairwise_ne, List.pairwise_iff_getElem] at hnd
          obtain ⟨hi, hy'⟩ := Array.getElem?_eq_some_iff.1 hy
          obtain ⟨hjl, hj'⟩ := Array.getElem?_eq_some_iff.1 hj
          rcases Nat.lt_trichotomy i j with hlt | heq | hgt
          · have := hnd i j (by simpa using hi) (by simpa using hjl) hlt
            simp [hy', hj', hyk, h3] at this
          · exact heq
          · have := hnd j i (by simpa using hjl) (by simpa using hi) hgt
            simp [hy', hj', hyk, h3] at this
        constructor
        · intro hx
          obtain ⟨i, hi, hxi⟩ := List.getElem_of_mem hx
          have hx? : (es.modify j fun e => { e with key := .int K n, val := v })[i]? = some x := by
            rw [← Array.getElem?_toList, List.getElem?_eq_getElem hi, hxi]
          rw [Array.getElem?_modify] at hx?
          by_cases hij : j = i
          · subst hij; rw [if_pos rfl, hj] at hx?; exact .inl (Option.some.inj hx?).symm
          · rw [if_neg hij] at hx?
            refine .inr ⟨?_, fun hk' => hij (huniq i x hx? hk').symm⟩
            rw [← Array.getElem?_toList] at hx?
            exact List.mem_of_getElem? hx?
        · rintro (rfl | ⟨hx, hk'⟩)
          · have : (es.modify j fun e => { e with key := .int K n, val := v })[j]? = some { e with key := .int K n, val := v } := by rw [Array.getElem?_modify, if_pos rfl, hj]; rfl
            rw [← Array.getElem?_toList] at this
            exact List.mem_of_getElem? this
          · obtain ⟨i, hi, hxi⟩ := List.getElem_of_mem hx
            have hx? : es[i]? = some x := by rw [← Array.getElem?_toList, List.getElem?_eq_getElem hi, hxi]
            have hij : j ≠ i := by rintro rfl; rw [hj] at hx?; obtain rfl := Option.some.inj hx?; exact hk' h3
            have : (es.modify j fun e => { e with key := .int K n, val := v })[i]? = some x := by rw [Array.getElem?_modify, if_neg hij, hx?]
            rw [← Array.getElem?_toList] at this
            exact List.mem_of_getElem? this
      intro k u
      simp only [hmem, upd]
      by_cases hkn : k = n
      · subst hkn
        simp only [if_true, Option.some.injEq]
        constructor
        · rintro rfl; exact ⟨_, .inl rfl, rfl, rfl⟩
        · rintro ⟨x, rfl | ⟨hx, hx2⟩, hx1, rfl⟩
          · rfl
          · exact absurd hx1 hx2
      · rw [if_neg hkn, hf]
        constructor
        · rintro ⟨x, hx, hx1, hx2⟩
          refine ⟨x, .inr ⟨hx, ?_⟩, hx1, hx2⟩
          rw [hx1]; simpa using hkn
        · rintro ⟨x, rfl | ⟨hx, _⟩, hx1, hx2⟩
          · simp at hx1; exact absurd hx1.symm hkn
          · exact ⟨x, hx, hx1, hx2⟩

theorem MapIs.lookup (h : MapIs w b K f) (hm : P.underlying T = some (.map kt et)) (hd : P.underlying kt = some (.int K)) (n : Int) (z : Value) (hz : (zeroValue et).run P w = .ok z w) (ok : Bool) :
    (Instr.lookup T (.map (some b)) (.int K n) ok).run P w = .ok (if ok then .tuple #[(f n).getD z, .bool (f n).isSome] else (f n).getD z) w := by
  obtain ⟨es, clock, hb, hs, hks, hf⟩ := h
  have hk : IsKey (.int K) (.int K n) := by simp [IsKey]
  rcases findNow_spec hk es.toList 0 hks with ⟨h1, h2⟩ | ⟨j, e, h1, h2, h3⟩
  · have hn : f n = none := by
      cases hfn : f n with
      | none => rfl
      | some v => obtain ⟨x, hx, hx1, _⟩ := (hf n v).1 hfn; exact absurd hx1 (h2 x hx)
    cases ok <;> simp [Instr.lookup, run_underlying hm, MapKept.run_getObj_map hb, run_checkKey hd hk, run_findKey hd h1, hz, hn, Result.andThen]
  · have hn : f n = some e.val := (hf n _).2 ⟨e, List.mem_of_getElem? h2, h3, rfl⟩
    cases ok <;> simp [Instr.lookup, run_underlying hm, MapKept.run_getObj_map hb, run_checkKey hd hk, run_findKey hd h1, hn, Result.andThen]

theorem MapIs.update_list {ops : Array Oper} {rest : List Oper} {o : Oper} {a : Act} {Q : Exit → Act → World → Prop} (h : MapIs w b K f) (hgd : o.guard = none) (m x v : Operand) (hop : o.op = Op.mapUpdate T m x v)
    (hm : P.underlying T = some (.map kt et)) (hd : P.underlying kt = some (.int K)) (n : Int) (u : Value) (h1 : a.eval m = .map (some b)) (h2 : a.eval x = .int K n) (h3 : a.eval v = u)
    (hK : ∀ w', MapIs w' b K (upd f n u) → Fr [b] w w' → wpList P ops Q rest (a.put o.dst undef) w') : wpList P ops Q (o :: rest) a w := by
  refine wpList_plain hgd fun K' hK' => ?_
  obtain ⟨w', hrun, r1, r2⟩ := h.update hm hd n u
  unfold Oper.wp
  simp [execOp, hop, h1, h2, h3, hrun, Result.andThen]
  exact hK' _ _ (hK w' r1 r2)

theorem MapIs.update_step {ops : Array Oper} {o : Oper} {a : Act} {K' : Act → World → Prop} {Q : Exit → Act → World → Prop} {E : Prop} (h : MapIs w b K f) (hgd : o.guard = none) (m x v : Operand) (hop : o.op = Op.mapUpdate T m x v)
    (hm : P.underlying T = some (.map kt et)) (hd : P.underlying kt = some (.int K)) (n : Int) (u : Value) (h1 : a.eval m = .map (some b)) (h2 : a.eval x = .int K n) (h3 : a.eval v = u)
    (hK : ∀ w', MapIs w' b K (upd f n u) → Fr [b] w w' → K' (a.put o.dst undef) w') :
    if Region.wanted o (yielded ops a.tmps) = true then Oper.wp P o a w K' Q else E := by
  have hw : Region.wanted o (yielded ops a.tmps) = true := by simp [Region.wanted, hgd]
  rw [if_pos hw]
  obtain ⟨w', hrun, r1, r2⟩ := h.update hm hd n u
  unfold Oper.wp
  simp [execOp, hop, h1, h2, h3, hrun, Result.andThen]
  exact hK w' r1 r2
end
end Go.Proofs.YtahohmdfllgedaaGreat

namespace Go.Proofs.YtahohmdfllgedaaGreat
open Go.RowKit

/-- Block pb is a context of the parser. -/
def pcCells (bb total : Nat) (ev : Value) (mb : Nat) (cv fv : Value) (len : Nat) : Array Value :=
  #[.int .u64 0, .pointer (some ⟨bb, 0, none⟩), .int .i64 (total : Int), ev, .map (some mb), cv, fv, .int .u32 (len : Int), .int .i64 8, .int .u64 0, .nilIface]
def PC (w : World) (pb bb total : Nat) (ev : Value) (mb : Nat) (cv fv : Value) (len : Nat) : Prop := w.heap[pb]? = some (.cells (pcCells bb total ev mb cv fv len) 109 (0, 0))

theorem PC.fr {bs : List Nat} {w w' : World} {pb bb total : Nat} {ev : Value} {mb : Nat} {cv fv : Value} {len : Nat} (h : PC w pb bb total ev mb cv fv len) (f : Fr bs w w') (hn : pb ∉ bs) : PC w' pb bb total ev mb cv fv len := f.get h hn

set_option maxRecDepth 100000 in
set_option maxHeartbeats 2000000 in
theorem pOffset_any (pb bb total : Nat) (ev : Value) (mb : Nat) (cv fv : Value) (len : Nat) (v : Value) (D : List UInt8) (off : Nat) (rd : Bool) (w : World) (h : PC w pb bb total ev mb cv fv len) (hb : BufR w bb v D off rd) (ht : total = D.length) :
    Calls Tryz.prog 51 #[.pointer (some ⟨pb, 0, none⟩)] w fun e w' => e = .returned (.int .i64 (off : Int)) ∧ ∃ k, w' = w.drewN k := by
  have c1 : w.cell? ⟨pb, 1, none⟩ = some (.pointer (some ⟨bb, 0, none⟩)) := by rw [blk_cell h]; rfl
  have c2 : w.cell? ⟨pb, 2, none⟩ = some (.int .i64 (total : Int)) := by rw [blk_cell h]; rfl
  have hl := hb.2.2.2.2
  have ho := hb.2.2.2.1
  have Hb := Lib.hid hb
  have Ht : Hid (IntKind.i64.wrap ((total : Int) - ((D.length - off : Nat) : Int)) = (off : Int)) := by
    show _ = _
    rw [IntWalk.i64_in _ (by omega)]; omega
  have ht1 := Ht.out
  clear h hb ht
  go_enter Tryz.func51, Tryz.ntmps51
  go_wp2_with fail
  go_quiet ((go_at_call 41; exact Calls.quiet_of (BufLen_any bb v D off (D.length - off) rd _ Hb.out (by omega))))
  go_wp2
  go_ret
  exact ⟨rfl, _, rfl⟩

set_option maxRecDepth 100000 in
set_option maxHeartbeats 2000000 in
theorem parsingEH_any (pb bb total : Nat) (ev : Value) (mb : Nat) (cv fv : Value) (len : Nat) (w : World) (h : PC w pb bb total ev mb cv fv len) :
    Calls Tryz.prog 71 #[.pointer (some ⟨pb, 0, none⟩)] w fun e w' => e = .returned (.bool false) ∧ w = w' := by
  have c9 : w.cell? ⟨pb, 9, none⟩ = some (.int .u64 0) := by rw [blk_cell h]; rfl
  clear h
  go_enter Tryz.func71, Tryz.ntmps71
  go_wp2_with fail
  go_ret
  exact ⟨rfl, rfl⟩

set_option maxRecDepth 100000 in
set_option maxHeartbeats 2000000 in
theorem cieEntry_any (pb bb total : Nat) (ev : Value) (mb : Nat) (cv fv : Value) (len : Nat) (n : Nat) (w : World) (h : PC w pb bb total ev mb cv fv len) :
    Calls Tryz.prog 53 #[.pointer (some ⟨pb, 0, none⟩), .int .u32 (n : Int)] w fun e w' => e = .returned (.bool ((n : Int) == 4294967295)) ∧ w = w' := by
  have H := Lib.hid h
  clear h
  go_enter Tryz.func53, Tryz.ntmps53
  go_wp2_with (go_at_call 71; refine (parsingEH_any pb bb total ev mb cv fv len _ H.out).mono ?_; rintro e w' ⟨rfl, rfl⟩)
  go_ret
  exact ⟨rfl, rfl⟩

theorem cieEntry_no (pb bb total : Nat) (ev : Value) (mb : Nat) (cv fv : Value) (len : Nat) (n : Nat) (hn : n < 1073741824) (w : World) (h : PC w pb bb total ev mb cv fv len) :
    Calls Tryz.prog 53 #[.pointer (some ⟨pb, 0, none⟩), .int .u32 (n : Int)] w fun e w' => e = .returned (.bool false) ∧ w = w' := by
  have e : ((n : Int) == 4294967295) = false := by rw [beq_eq_false_iff_ne]; omega
  refine (cieEntry_any pb bb total ev mb cv fv len n w h).mono ?_
  rintro e1 w' ⟨rfl, h2⟩
  exact ⟨by rw [e], h2⟩

theorem PC.setLen {w : World} {pb bb total : Nat} {ev : Value} {mb : Nat} {cv fv : Value} {len : Nat} (h : PC w pb bb total ev mb cv fv len) (n : Nat) : PC (w.setCell ⟨pb, 7, none⟩ (.int .u32 (n : Int))) pb bb total ev mb cv fv n := blk_set h 7 _
theorem PC.setCommon {w : World} {pb bb total : Nat} {ev : Value} {mb : Nat} {cv fv : Value} {len : Nat} (h : PC w pb bb total ev mb cv fv len) (n : Value) : PC (w.setCell ⟨pb, 5, none⟩ n) pb bb total ev mb n fv len := blk_set h 5 _
theorem PC.setFrame {w : World} {pb bb total : Nat} {ev : Value} {mb : Nat} {cv fv : Value} {len : Nat} (h : PC w pb bb total ev mb cv fv len) (n : Value) : PC (w.setCell ⟨pb, 6, none⟩ n) pb bb total ev mb cv n len := blk_set h 6 _
theorem PC.setEntries {w : World} {pb bb total : Nat} {ev : Value} {mb : Nat} {cv fv : Value} {len : Nat} (h : PC w pb bb total ev mb cv fv len) (n : Value) : PC (w.setCell ⟨pb, 3, none⟩ n) pb bb total n mb cv fv len := blk_set h 3 _

/-- What parselength leaves of a common entry. -/
def cieNew (L : Nat) : Array Value := #[.int .u32 (L : Int), .int .u32 4294967295, .int .u8 0, .string ⟨#[]⟩, .int .u64 0, .int .i64 0, .int .u64 0, .slice none 0 0, .int .u64 0, .int .u8 0]
def fdeNew (L cb : Nat) : Array Value := #[.int .u32 (L : Int), .pointer (some ⟨cb, 0, none⟩), .slice none 0 0, .int .u64 0, .int .u64 0, .nilIface]

set_option maxRecDepth 100000 in
set_option maxHeartbeats 8000000 in
theorem parselength_cie (pb bb total : Nat) (ev : Value) (mb : Nat) (cv fv : Value) (len : Nat) (v : Value) (D : List UInt8) (off : Nat) (rd : Bool) (f : Int → Option Value) (w : World)
    (h : PC w pb bb total ev mb cv fv len) (hb : BufR w bb v D off rd) (ht : total = D.length) (hm : MapIs w mb .i64 f) (hv : ∀ g, v.ownBlock = some g → g < w.heap.size ∧ g ≠ pb ∧ g ≠ mb) (hd1 : pb ≠ bb) (hd2 : pb ≠ mb) (hd3 : bb ≠ mb)
    (L : Nat) (rest : List UInt8) (hD : D.drop off = leL (L + 4) 4 ++ leL 4294967295 4 ++ rest) (hL : L < 1073741824) :
    Calls Tryz.prog 40 #[.pointer (some ⟨pb, 0, none⟩)] w fun e w' => e = .returned (.func (.func 54) #[] #[]) ∧
      ∃ cb, w.heap.size ≤ cb ∧ PC w' pb bb total ev mb (.pointer (some ⟨cb, 0, none⟩)) fv L ∧ w'.heap[cb]? = some (.cells (cieNew L) 138 (0, 0)) ∧
        (∃ rd', BufR w' bb v D (off + 8) rd') ∧ MapIs w' mb .i64 (upd f (off : Int) (.pointer (some ⟨cb, 0, none⟩))) ∧ Fr [pb, bb, mb] w w' := by
  have hl := hb.2.2.2.2
  have ho := hb.2.2.2.1
  have hlen : off + 8 ≤ D.length := by
    have := congrArg List.length hD
    simp only [List.length_drop, List.length_append, leL_length] at this; omega
  have ht4 : leval ((D.drop off).take 4) = L + 4 := by
    rw [hD, List.append_assoc, List.take_append_of_le_length (by rw [leL_length]; omega), List.take_of_length_le (by rw [leL_length]; omega), leval_leL]; omega
  have ht8 : leval ((D.drop (off + 4)).take 4) = 4294967295 := by
    rw [← List.drop_drop, hD, List.append_assoc, List.drop_append_of_le_length (by rw [leL_length]; omega), List.drop_of_length_le (l := leL (L + 4) 4) (by rw [leL_length]; omega), List.nil_append,
      List.take_append_of_le_length (by rw [leL_length]; omega), List.take_of_length_le (by rw [leL_length]; omega), leval_leL]
  have c1 : w.cell? ⟨pb, 1, none⟩ = some (.pointer (some ⟨bb, 0, none⟩)) := by rw [blk_cell h]; rfl
  have H := Lib.hid h
  have Hb := Lib.hid hb
  have Hm := Lib.hid hm
  have Hv := Lib.hid hv
  have Hd1 := Lib.hid hd1
  have Hd2 := Lib.hid hd2
  have Hd3 := Lib.hid hd3
  have Ht4 := Lib.hid ht4
  have Ht8 := Lib.hid ht8
  have Ht := Lib.hid ht
  clear h hb hm hv hd1 hd2 hd3 hD ht4 ht8 ht
  go_enter Tryz.func40, Tryz.ntmps40
  go_wp2_with (go_at_call 51; refine (pOffset_any pb bb total ev mb cv fv len v D off rd _ H.out Hb.out Ht.out).mono ?_; rintro e w' ⟨rfl, k, rfl⟩)
  obtain ⟨M, hM⟩ : ∃ M, L + 4 = M := ⟨_, rfl⟩
  have hM4 : (4 : Int) ≤ (M : Int) := by omega
  have hMi : (M : Int) < 4294967296 := by omega
  have hM0 : ((M : Int) == 0) = false := by rw [beq_eq_false_iff_ne]; omega
  have HML : Hid ((M : Int) - 4 = (L : Int)) := by show _ = _; omega
  have HM := Lib.hid hM
  clear hM
  have F0 : Hid (Fr [] w ((w.drewN k).drew)) := ((Fr.refl _ _).drewN k).drew
  go_region_held3 (fun w' => w'.cell? ⟨pb, 1, none⟩ = some (.pointer (some ⟨bb, 0, none⟩)))
    (first | exact c1' | exact c1)
    ((go_at_call 52; go_must (refine (ReadFixed_u32 true bb v D off pb 7 (pcCells bb total ev mb cv fv len) 109 (len : Int) _ ⟨rd, Hb.out.fr F0.out (by simp) (by simp)⟩ (by omega) H.out rfl Hd1.out Hb.out.lt (fun g hg => ⟨(Hv.out g hg).1, (Hv.out g hg).2.1⟩)).mono ?_); rw [Ht4.out, HM.out]; rintro e w2 ⟨rfl, ⟨rd2, hb2⟩, hp2, hf2⟩; have Hp2 : Hid (PC w2 pb bb total ev mb cv fv M) := hp2; have Hb2 := Lib.hid hb2; have Hf2 : Hid (Fr [pb, bb] w w2) := (F0.out.mono (by simp)).trans hf2 (by simp); have c1' : w2.cell? ⟨pb, 1, none⟩ = some (.pointer (some ⟨bb, 0, none⟩)) := blk_cell Hp2.out 1; clear hb2 hp2 hf2))
  all_goals
    have c7 : w2.cell? ⟨pb, 7, none⟩ = some (.int .u32 (M : Int)) := blk_cell Hp2.out 7
    have d1 : (w2.alloc (.cells #[.int .u32 0] 99)).cell? ⟨pb, 1, none⟩ = some (.pointer (some ⟨bb, 0, none⟩)) := ((Fr.refl [] w2).alloc _).cell c1' (by simp)
    clear c1
    go_wp2_with (go_at_call 52; go_must (refine (ReadFixed_u32 true bb v D (off + 4) w2.heap.size 0 #[.int .u32 0] 99 0 _ ⟨rd2, Hb2.out.fr ((Fr.refl [] w2).alloc _) (by simp) (by simp)⟩ (by omega) (blk_new _ _) rfl (by have := Hb2.out.lt; omega) (by have := Hb2.out.lt; simp; omega) (fun g hg => by have := (Hv.out g hg).1; have := Hf2.out.size; simp; omega)).mono ?_); rw [Ht8.out])
    rintro e w3 ⟨rfl, ⟨rd3, hb3⟩, hp3, hf3⟩
    have hf3' : Fr [bb] w2 w3 := ((Fr.refl [bb] w2).alloc _).trans hf3 (by intro i hi hlt; simp at hi hlt; rcases hi with rfl | rfl; simp; omega)
    have Hp3 : Hid (PC w3 pb bb total ev mb cv fv M) := Hp2.out.fr hf3' (by simpa using Hd1.out)
    have e1 : w3.cell? ⟨pb, 7, none⟩ = some (.int .u32 (M : Int)) := blk_cell Hp3.out 7
    have e2 : w3.frozen? ⟨pb, 7, none⟩ = false := blk_free Hp3.out 7
    have q3 : w3.heap[w2.heap.size]? = some (.cells #[.int .u32 4294967295] 99 (0, 0)) := by simpa using hp3
    have q4 : (w3.setCell ⟨pb, 7, none⟩ (.int .u32 ((M : Int) - 4))).heap[w2.heap.size]? = some (.cells #[.int .u32 4294967295] 99 (0, 0)) := blk_set_other q3 (by have := lt_heap Hp2.out; omega)
    have e3 : (w3.setCell ⟨pb, 7, none⟩ (.int .u32 ((M : Int) - 4))).cell? ⟨w2.heap.size, 0, none⟩ = some (.int .u32 4294967295) := by rw [blk_cell q4]; rfl
    have HP4 : Hid (PC (w3.setCell ⟨pb, 7, none⟩ (.int .u32 ((M : Int) - 4))) pb bb total ev mb cv fv L) := by rw [HML.out]; exact Hp3.out.setLen L
    have Hb3 := Lib.hid hb3
    have Hf3 := Lib.hid hf3'
    clear hb3 hp3 hf3 hf3' q3 c1' c7 d1
    go_wp2_with (go_at_call 53; go_must (refine (cieEntry_any pb bb total ev mb cv fv L 4294967295 _ HP4.out).mono ?_); rintro e w' ⟨rfl, rfl⟩)
    have hf4 : Fr [pb] w3 (w3.setCell ⟨pb, 7, none⟩ (.int .u32 ((M : Int) - 4))) := (Fr.refl _ _).setCell (.inl (by simp)) _
    have hb4 : BufR (w3.setCell ⟨pb, 7, none⟩ (.int .u32 ((M : Int) - 4))) bb v D (off + 4 + 4) rd3 := Hb3.out.fr hf4 (by simpa using Hd1.out.symm) (fun g hg => by have := (Hv.out g hg).2.1; simpa using this)
    generalize w3.setCell ⟨pb, 7, none⟩ (.int .u32 ((M : Int) - 4)) = w4 at *
    have Hb4 := Lib.hid hb4
    have HF4 : Hid (Fr [pb, bb] w w4) := (Hf2.out.trans (Hf3.out.mono (bs := [pb, bb]) (by simp)) (fun i h _ => h)).trans (hf4.mono (bs := [pb, bb]) (by simp)) (fun i h _ => h)
    have Q4 := Lib.hid q4
    have hpq : Hid (w2.heap.size ≠ pb) := by have := lt_heap Hp2.out; show _ ≠ _; omega
    clear hb4 hf4 e1 e2 q4
    have k7 : w4.cell? ⟨pb, 7, none⟩ = some (.int .u32 (L : Int)) := blk_cell HP4.out 7
    have k0 : w4.cell? ⟨pb, 0, none⟩ = some (.int .u64 0) := blk_cell HP4.out 0
    have s5 : ∀ o, (w4.alloc o).drew.cell? ⟨pb, 5, none⟩ = some cv := fun o => ((Fr.refl [] w4).alloc o).drew.cell (blk_cell HP4.out 5) (by simp)
    have z5 : ∀ o, (w4.alloc o).drew.frozen? ⟨pb, 5, none⟩ = false := fun o => blk_free (((Fr.refl [] w4).alloc o).drew.get HP4.out (by simp)) 5
    generalize hN : (4294967295 : Int) = N at *
    have HN := Lib.hid hN
    clear hN
    have KA : Hid (∀ o, (w4.alloc o).drew.cell? ⟨pb, 7, none⟩ = some (.int .u32 (L : Int)) ∧ (w4.alloc o).drew.cell? ⟨pb, 0, none⟩ = some (.int .u64 0) ∧ (w4.alloc o).drew.cell? ⟨w2.heap.size, 0, none⟩ = some (.int .u32 N)) :=
      fun o => ⟨((Fr.refl [] w4).alloc _).drew.cell k7 (by simp), ((Fr.refl [] w4).alloc _).drew.cell k0 (by simp), ((Fr.refl [] w4).alloc _).drew.cell e3 (by simp)⟩
    have KB : Hid (∀ o n, ((w4.alloc o).setCell ⟨pb, 5, none⟩ n).drew.cell? ⟨pb, 7, none⟩ = some (.int .u32 (L : Int)) ∧ ((w4.alloc o).setCell ⟨pb, 5, none⟩ n).drew.cell? ⟨pb, 0, none⟩ = some (.int .u64 0) ∧ ((w4.alloc o).setCell ⟨pb, 5, none⟩ n).drew.cell? ⟨w2.heap.size, 0, none⟩ = some (.int .u32 N)) :=
      fun o n => ⟨blk_cell (PC.setCommon (((Fr.refl [] w4).alloc o).get HP4.out (by simp)) n) 7, blk_cell (PC.setCommon (((Fr.refl [] w4).alloc o).get HP4.out (by simp)) n) 0, (blk_cell (blk_set_other (((Fr.refl [] w4).alloc o).get Q4.out (by simp)) hpq.out) 0).trans rfl⟩
    go_region_held3 (fun w' => w'.cell? ⟨pb, 7, none⟩ = some (.int .u32 (L : Int)) ∧ w'.cell? ⟨pb, 0, none⟩ = some (.int .u64 0) ∧ w'.cell? ⟨w2.heap.size, 0, none⟩ = some (.int .u32 N))
      (first | exact ⟨k7, k0, e3⟩ | with_reducible exact KA.out _ | with_reducible exact KB.out _ _)
      (fail)
    all_goals
      have hG5 : Fr [pb] w4 ((w4.alloc (.cells #[.int .u32 (L : Int), .int .u32 N, .int .u8 0, .string ⟨#[]⟩, .int .u64 0, .int .i64 0, .int .u64 0, .slice none 0 0, .int .u64 0, .int .u8 0] 138)).setCell ⟨pb, 5, none⟩ (.pointer (some ⟨w4.heap.size, 0, none⟩))).drew := (((Fr.refl [pb] w4).alloc _).setCell (.inl (by simp)) _).drew
      have hP5 : PC ((w4.alloc (.cells #[.int .u32 (L : Int), .int .u32 N, .int .u8 0, .string ⟨#[]⟩, .int .u64 0, .int .i64 0, .int .u64 0, .slice none 0 0, .int .u64 0, .int .u8 0] 138)).setCell ⟨pb, 5, none⟩ (.pointer (some ⟨w4.heap.size, 0, none⟩))).drew pb bb total ev mb (.pointer (some ⟨w4.heap.size, 0, none⟩)) fv L :=
        PC.setCommon (((Fr.refl [] w4).alloc _).get HP4.out (by simp)) _
      have hC5 : (((w4.alloc (.cells #[.int .u32 (L : Int), .int .u32 N, .int .u8 0, .string ⟨#[]⟩, .int .u64 0, .int .i64 0, .int .u64 0, .slice none 0 0, .int .u64 0, .int .u8 0] 138)).setCell ⟨pb, 5, none⟩ (.pointer (some ⟨w4.heap.size, 0, none⟩))).drew).heap[w4.heap.size]? = some (.cells #[.int .u32 (L : Int), .int .u32 N, .int .u8 0, .string ⟨#[]⟩, .int .u64 0, .int .i64 0, .int .u64 0, .slice none 0 0, .int .u64 0, .int .u8 0] 138 (0, 0)) :=
        blk_set_other (blk_new w4 _) (by have := lt_heap HP4.out; omega)
      generalize ((w4.alloc (.cells #[.int .u32 (L : Int), .int .u32 N, .int .u8 0, .string ⟨#[]⟩, .int .u64 0, .int .i64 0, .int .u64 0, .slice none 0 0, .int .u64 0, .int .u8 0] 138)).setCell ⟨pb, 5, none⟩ (.pointer (some ⟨w4.heap.size, 0, none⟩))).drew = w5 at *
      have HP5 := Lib.hid hP5
      have HC5 := Lib.hid hC5
      have HF5 : Hid (Fr [pb, bb] w w5) := HF4.out.trans (hG5.mono (bs := [pb, bb]) (by simp)) (fun i h _ => h)
      have HB5 : Hid (BufR w5 bb v D (off + 4 + 4) rd3) := Hb4.out.fr hG5 (by simpa using Hd1.out.symm) (fun g hg => by have := (Hv.out g hg).2.1; simpa using this)
      have HM5 : Hid (MapIs w5 mb .i64 f) := Hm.out.fr HF5.out (by simpa using ⟨Hd2.out.symm, Hd3.out.symm⟩)
      clear hG5 hP5 hC5 k7 k0 e3 s5 z5 KA KB
      have k4 : w5.cell? ⟨pb, 4, none⟩ = some (.map (some mb)) := blk_cell HP5.out 4
      have k5 : w5.cell? ⟨pb, 5, none⟩ = some (.pointer (some ⟨w4.heap.size, 0, none⟩)) := blk_cell HP5.out 5
      obtain ⟨w6, hrun, hm6, hf6⟩ := MapIs.update (P := Tryz.prog) (HM5.out.fr (Fr.drew (Fr.refl [] w5)) (by simp)) Tryz.underlying107 Tryz.underlying3 (off : Int) (.pointer (some ⟨w4.heap.size, 0, none⟩))
      have HM6 := Lib.hid hm6
      have HF6 : Hid (Fr [mb] w5 w6) := (Fr.refl [mb] w5).drew.trans hf6 (fun i h _ => h)
      clear hm6 hf6
      go_wp2_with fail
      go_region_held3 (fun w' => w'.cell? ⟨pb, 4, none⟩ = some (.map (some mb)) ∧ w'.cell? ⟨pb, 5, none⟩ = some (.pointer (some ⟨w4.heap.size, 0, none⟩)))
        (first | exact ⟨k4, k5⟩ | exact ⟨HF6.out.cell k4 (by simpa using Hd2.out), HF6.out.cell k5 (by simpa using Hd2.out)⟩)
        (fail)
      all_goals
        go_wp2_with fail
        go_ret
        refine ⟨rfl, w4.heap.size, HF4.out.size, HP5.out.fr HF6.out (by simpa using Hd2.out), ?_, ?_, HM6.out, (HF5.out.mono (bs := [pb, bb, mb]) (by simp)).trans (HF6.out.mono (bs := [pb, bb, mb]) (by simp)) (fun i h _ => h)⟩
        · have := HF6.out.get HC5.out (by have := Hm.out.lt; have := HF4.out.size; simp; omega)
          rw [← HN.out] at this; exact this
        · exact ⟨_, HB5.out.fr HF6.out (by simpa using Hd3.out) (fun g hg => by have := (Hv.out g hg).2.2; simpa using this)⟩
end Go.Proofs.YtahohmdfllgedaaGreat

namespace Go.Proofs.YtahohmdfllgedaaGreat
open Go.RowKit

set_option maxRecDepth 100000 in
set_option maxHeartbeats 8000000 in
theorem parselength_fde (pb bb total : Nat) (ev : Value) (mb : Nat) (cv fv : Value) (len : Nat) (v : Value) (D : List UInt8) (off : Nat) (rd : Bool) (f : Int → Option Value) (w : World)
    (h : PC w pb bb total ev mb cv fv len) (hb : BufR w bb v D off rd) (ht : total = D.length) (hm : MapIs w mb .i64 f) (hv : ∀ g, v.ownBlock = some g → g < w.heap.size ∧ g ≠ pb ∧ g ≠ mb) (hd1 : pb ≠ bb) (hd2 : pb ≠ mb) (hd3 : bb ≠ mb)
    (L n cb : Nat) (rest : List UInt8) (hD : D.drop off = leL (L + 4) 4 ++ leL n 4 ++ rest) (hL : L < 1073741824) (hn : n < 1073741824) (hfn : f (n : Int) = some (.pointer (some ⟨cb, 0, none⟩))) :
    Calls Tryz.prog 40 #[.pointer (some ⟨pb, 0, none⟩)] w fun e w' => e = .returned (.func (.func 56) #[] #[]) ∧
      ∃ fb, w.heap.size ≤ fb ∧ PC w' pb bb total ev mb cv (.pointer (some ⟨fb, 0, none⟩)) L ∧ w'.heap[fb]? = some (.cells (fdeNew L cb) 114 (0, 0)) ∧
        (∃ rd', BufR w' bb v D (off + 8) rd') ∧ Fr [pb, bb] w w' := by
  have hl := hb.2.2.2.2
  have ho := hb.2.2.2.1
  have hlen : off + 8 ≤ D.length := by
    have := congrArg List.length hD
    simp only [List.length_drop, List.length_append, leL_length] at this; omega
  have ht4 : leval ((D.drop off).take 4) = L + 4 := by
    rw [hD, List.append_assoc, List.take_append_of_le_length (by rw [leL_length]; omega), List.take_of_length_le (by rw [leL_length]; omega), leval_leL]; omega
  have ht8 : leval ((D.drop (off + 4)).take 4) = n := by
    rw [← List.drop_drop, hD, List.append_assoc, List.drop_append_of_le_length (by rw [leL_length]; omega), List.drop_of_length_le (l := leL (L + 4) 4) (by rw [leL_length]; omega), List.nil_append,
      List.take_append_of_le_length (by rw [leL_length]; omega), List.take_of_length_le (by rw [leL_length]; omega), leval_leL]; omega
  have c1 : w.cell? ⟨pb, 1, none⟩ = some (.pointer (some ⟨bb, 0, none⟩)) := by rw [blk_cell h]; rfl
  have H := Lib.hid h
  have Hb := Lib.hid hb
  have Hm := Lib.hid hm
  have Hv := Lib.hid hv
  have Hd1 := Lib.hid hd1
  have Hd2 := Lib.hid hd2
  have Hd3 := Lib.hid hd3
  have Ht4 := Lib.hid ht4
  have Ht8 := Lib.hid ht8
  have Ht := Lib.hid ht
  have Hfn := Lib.hid hfn
  clear h hb hm hv hd1 hd2 hd3 hD ht4 ht8 ht hfn
  go_enter Tryz.func40, Tryz.ntmps40
  go_wp2_with (go_at_call 51; refine (pOffset_any pb bb total ev mb cv fv len v D off rd _ H.out Hb.out Ht.out).mono ?_; rintro e w' ⟨rfl, k, rfl⟩)
  obtain ⟨M, hM⟩ : ∃ M, L + 4 = M := ⟨_, rfl⟩
  have hM4 : (4 : Int) ≤ (M : Int) := by omega
  have hMi : (M : Int) < 4294967296 := by omega
  have hM0 : ((M : Int) == 0) = false := by rw [beq_eq_false_iff_ne]; omega
  have HML : Hid ((M : Int) - 4 = (L : Int)) := by show _ = _; omega
  have HM := Lib.hid hM
  clear hM
  have F0 : Hid (Fr [] w ((w.drewN k).drew)) := ((Fr.refl _ _).drewN k).drew
  go_region_held3 (fun w' => w'.cell? ⟨pb, 1, none⟩ = some (.pointer (some ⟨bb, 0, none⟩)))
    (first | exact c1' | exact c1)
    ((go_at_call 52; go_must (refine (ReadFixed_u32 true bb v D off pb 7 (pcCells bb total ev mb cv fv len) 109 (len : Int) _ ⟨rd, Hb.out.fr F0.out (by simp) (by simp)⟩ (by omega) H.out rfl Hd1.out Hb.out.lt (fun g hg => ⟨(Hv.out g hg).1, (Hv.out g hg).2.1⟩)).mono ?_); rw [Ht4.out, HM.out]; rintro e w2 ⟨rfl, ⟨rd2, hb2⟩, hp2, hf2⟩; have Hp2 : Hid (PC w2 pb bb total ev mb cv fv M) := hp2; have Hb2 := Lib.hid hb2; have Hf2 : Hid (Fr [pb, bb] w w2) := (F0.out.mono (by simp)).trans hf2 (by simp); have c1' : w2.cell? ⟨pb, 1, none⟩ = some (.pointer (some ⟨bb, 0, none⟩)) := blk_cell Hp2.out 1; clear hb2 hp2 hf2))
  all_goals
    have c7 : w2.cell? ⟨pb, 7, none⟩ = some (.int .u32 (M : Int)) := blk_cell Hp2.out 7
    have d1 : (w2.alloc (.cells #[.int .u32 0] 99)).cell? ⟨pb, 1, none⟩ = some (.pointer (some ⟨bb, 0, none⟩)) := ((Fr.refl [] w2).alloc _).cell c1' (by simp)
    clear c1
    go_wp2_with (go_at_call 52; go_must (refine (ReadFixed_u32 true bb v D (off + 4) w2.heap.size 0 #[.int .u32 0] 99 0 _ ⟨rd2, Hb2.out.fr ((Fr.refl [] w2).alloc _) (by simp) (by simp)⟩ (by omega) (blk_new _ _) rfl (by have := Hb2.out.lt; omega) (by have := Hb2.out.lt; simp; omega) (fun g hg => by have := (Hv.out g hg).1; have := Hf2.out.size; simp; omega)).mono ?_); rw [Ht8.out])
    rintro e w3 ⟨rfl, ⟨rd3, hb3⟩, hp3, hf3⟩
    have hf3' : Fr [bb] w2 w3 := ((Fr.refl [bb] w2).alloc _).trans hf3 (by intro i hi hlt; simp at hi hlt; rcases hi with rfl | rfl; simp; omega)
    have Hp3 : Hid (PC w3 pb bb total ev mb cv fv M) := Hp2.out.fr hf3' (by simpa using Hd1.out)
    have e1 : w3.cell? ⟨pb, 7, none⟩ = some (.int .u32 (M : Int)) := blk_cell Hp3.out 7
    have e2 : w3.frozen? ⟨pb, 7, none⟩ = false := blk_free Hp3.out 7
    have q3 : w3.heap[w2.heap.size]? = some (.cells #[.int .u32 (n : Int)] 99 (0, 0)) := by simpa using hp3
    have q4 : (w3.setCell ⟨pb, 7, none⟩ (.int .u32 ((M : Int) - 4))).heap[w2.heap.size]? = some (.cells #[.int .u32 (n : Int)] 99 (0, 0)) := blk_set_other q3 (by have := lt_heap Hp2.out; omega)
    have e3 : (w3.setCell ⟨pb, 7, none⟩ (.int .u32 ((M : Int) - 4))).cell? ⟨w2.heap.size, 0, none⟩ = some (.int .u32 (n : Int)) := by rw [blk_cell q4]; rfl
    have HP4 : Hid (PC (w3.setCell ⟨pb, 7, none⟩ (.int .u32 ((M : Int) - 4))) pb bb total ev mb cv fv L) := by rw [HML.out]; exact Hp3.out.setLen L
    have Hb3 := Lib.hid hb3
    have Hf3 := Lib.hid hf3'
    clear hb3 hp3 hf3 hf3' q3 c1' c7 d1
    have k9 : (w3.setCell ⟨pb, 7, none⟩ (.int .u32 ((M : Int) - 4))).cell? ⟨pb, 9, none⟩ = some (.int .u64 0) := blk_cell HP4.out 9
    go_wp2_with (go_at_call 53; go_must (refine (cieEntry_no pb bb total ev mb cv fv L n hn _ HP4.out).mono ?_); rintro e w' ⟨rfl, rfl⟩)
    have hf4 : Fr [pb] w3 (w3.setCell ⟨pb, 7, none⟩ (.int .u32 ((M : Int) - 4))) := (Fr.refl _ _).setCell (.inl (by simp)) _
    have hb4 : BufR (w3.setCell ⟨pb, 7, none⟩ (.int .u32 ((M : Int) - 4))) bb v D (off + 4 + 4) rd3 := Hb3.out.fr hf4 (by simpa using Hd1.out.symm) (fun g hg => by have := (Hv.out g hg).2.1; simpa using this)
    generalize w3.setCell ⟨pb, 7, none⟩ (.int .u32 ((M : Int) - 4)) = w4 at *
    have Hb4 := Lib.hid hb4
    have HF4 : Hid (Fr [pb, bb] w w4) := (Hf2.out.trans (Hf3.out.mono (bs := [pb, bb]) (by simp)) (fun i h _ => h)).trans (hf4.mono (bs := [pb, bb]) (by simp)) (fun i h _ => h)
    have HM4 : Hid (MapIs w4 mb .i64 f) := Hm.out.fr HF4.out (by simpa using ⟨Hd2.out.symm, Hd3.out.symm⟩)
    clear hb4 hf4 e1 e2 q4 k9
    have k4 : w4.cell? ⟨pb, 4, none⟩ = some (.map (some mb)) := blk_cell HP4.out 4
    have hwn : IntKind.i64.wrap (n : Int) = (n : Int) := IntWalk.i64_in _ (by omega)
    have hlk : (Instr.lookup 107 (.map (some mb)) (.int .i64 (n : Int)) false).run Tryz.prog w4.drew = .ok (.pointer (some ⟨cb, 0, none⟩)) w4.drew := by
      have := MapIs.lookup (P := Tryz.prog) (HM4.out.fr (Fr.drew (Fr.refl [] w4)) (by simp)) Tryz.underlying107 Tryz.underlying3 (n : Int) (.pointer none) (by kernel_rfl) false
      rw [Hfn.out] at this; exact this
    go_region_held3 (fun w' => w'.cell? ⟨pb, 4, none⟩ = some (.map (some mb)) ∧ w'.cell? ⟨w2.heap.size, 0, none⟩ = some (.int .u32 (n : Int)))
      (exact ⟨k4, e3⟩)
      (fail)
    all_goals
      have hf5 : Fr [] w4 w4.drew := Fr.drew (Fr.refl [] w4)
      have hP5 : PC w4.drew pb bb total ev mb cv fv L := HP4.out
      have hB5 : BufR w4.drew bb v D (off + 4 + 4) rd3 := Hb4.out.fr hf5 (by simp) (by simp)
      clear hlk k4 e3 hwn
      generalize w4.drew = w5 at *
      have HP5 := Lib.hid hP5
      have HB5 := Lib.hid hB5
      have HF5 : Hid (Fr [pb, bb] w w5) := HF4.out.then hf5
      clear hf5 hP5 hB5
      have k7 : w5.cell? ⟨pb, 7, none⟩ = some (.int .u32 (L : Int)) := blk_cell HP5.out 7
      have hq : ∀ (a : Addr) (w : World), (binOp .eql 84 (.pointer (some a)) (.pointer none)).run Tryz.prog w = .ok (.bool false) w := fun _ _ => by kernel_rfl
      have s6 : ∀ o, (w5.alloc o).cell? ⟨pb, 6, none⟩ = some fv := fun o => ((Fr.refl [] w5).alloc o).cell (blk_cell HP5.out 6) (by simp)
      have z6 : ∀ o, (w5.alloc o).frozen? ⟨pb, 6, none⟩ = false := fun o => blk_free (((Fr.refl [] w5).alloc o).get HP5.out (by simp)) 6
      go_wp2_with fail
      go_ret
      have hG6 : Fr [pb] w5 ((w5.alloc (.cells (fdeNew L cb) 114)).setCell ⟨pb, 6, none⟩ (.pointer (some ⟨w5.heap.size, 0, none⟩))) := ((Fr.refl [pb] w5).alloc _).setCell (.inl (by simp)) _
      refine ⟨rfl, w5.heap.size, HF5.out.size, PC.setFrame (((Fr.refl [] w5).alloc _).get HP5.out (by simp)) _, ?_, ⟨_, HB5.out.fr hG6 (by simpa using Hd1.out.symm) (fun g hg => by have := (Hv.out g hg).2.1; simpa using this)⟩, HF5.out.trans (hG6.mono (bs := [pb, bb]) (by simp)) (fun i h _ => h)⟩
      exact blk_set_other (blk_new w5 _) (by have := lt_heap HP5.out; omega)
end Go.Proofs.YtahohmdfllgedaaGreat

namespace Go.Proofs.YtahohmdfllgedaaGreat
open Go.RowKit

theorem wrap_uval_nil : wrap64 ((uval ([] : List UInt8) : Nat) : Int) = 0 := by decide +kernel

set_option maxRecDepth 100000 in
set_option maxHeartbeats 1000000 in
theorem lDecS_any (b : Nat) (v : Value) (l : List UInt8) (off : Nat) (rd : Bool) (w : World) (h : BufR w b v l off rd) (p rest : List UInt8) (hp : l.drop off = p ++ rest) (he : Ended p) (h10 : p.length ≤ 10) :
    Calls Tryz.prog 75 #[.iface 83 (.pointer (some ⟨b, 0, none⟩))] w fun e w' =>
      e = .returned (.tuple #[.int .i64 (wrap64 (sval p)), .int .u32 ((p.length : Nat) : Int)]) ∧ BufR w' b v l (off + p.length) true ∧ Fr [b] w w' := by
  have hm1 := m_Len
  have hm2 := m_ReadByte
  have hpl : Hid (0 < p.length) := List.length_pos_iff.2 (Ended_ne he)
  have hoff : Hid (off + p.length ≤ l.length) := by
    have := congrArg List.length hp; simp at this; have := h.2.2.2.1; show _ ≤ _; omega
  have hget : Hid (∀ k (hk : k < p.length), ∃ h2 : off + k < l.length, l[off + k] = p[k]) := by
    intro k hk
    have h3 := hoff.out
    refine ⟨by omega, ?_⟩
    have h4 : (l.drop off)[k]? = (p ++ rest)[k]? := by rw [hp]
    rw [List.getElem?_drop, List.getElem?_append_left hk, List.getElem?_eq_getElem (by omega), List.getElem?_eq_getElem hk] at h4
    exact Option.some.inj h4
  have H := Lib.hid h
  have He := Lib.hid he
  clear h hp he
  have hne : ((((l.length - off : Nat) : Int)) == 0) = false := by rw [beq_eq_false_iff_ne]; have h1 := hpl.out; have h2 := hoff.out; omega
  go_enter Tryz.func75, Tryz.ntmps75
  go_wp2_with (go_at_call 41; refine (BufLen_any b v l off (l.length - off) rd _ H.out (by have := hoff.out; omega)).mono ?_; rintro e w' ⟨rfl, k, rfl⟩)
  clear hne
  generalize hx : l.length - off = x
  go_loopw [6, 7, 8] (fun r s c wr => ∃ k : Nat, ∃ rd', k < p.length ∧ r = .int .i64 (wrap64 ((uval (p.take k) : Nat) : Int)) ∧ s = .int .u64 ((7 * k : Nat) : Int) ∧ c = .int .u32 (k : Int) ∧
      BufR wr b v l (off + k) rd' ∧ Fr [b] w wr) (fun _ _ c _ => p.length - (intOf c).toNat)
  case atStart => exact ⟨0, rd, hpl.out, by rw [List.take_zero, wrap_uval_nil], rfl, rfl, H.out, (Fr.refl _ _).drewN _⟩
  case round =>
    obtain ⟨k, rd', hk, rfl, rfl, rfl, hbuf, hfr⟩ := hrel
    have Hbuf := Lib.hid hbuf
    have Hfr := Lib.hid hfr
    clear hbuf hfr
    obtain ⟨hlt, hgk⟩ := hget.out k hk
    have hlast := Ended_get He.out k hk
    have hstep := uval_take_succ k hk
    generalize hy : p[k] = y at *
    have hk9 : k ≤ 9 := by omega
    have hds := sdec_step (uval (p.take k)) k y hk9 (by have := uval_lt (p.take k); rwa [List.length_take, Nat.min_eq_left (by omega)] at this)
    rw [← hstep] at hds
    have Hstep := Lib.hid hstep
    have Hgk := Lib.hid hgk
    have Hlast := Lib.hid hlast
    have Hy := Lib.hid hy
    clear hstep hgk hlast hy
    by_cases hend : k + 1 = p.length
    · have t1 := top_bit_clear (Hlast.out.2 hend)
      rw [hend, List.take_length] at hds
      have Hend := Lib.hid hend
      have hlx : p.getD (p.length - 1) 0 = y := by
        rw [← Hy.out, ← hend]; simp [List.getD, List.getElem?_eq_getElem hk]
      have hlast2 := sdec_last (uval p) p.length (by omega) h10 (uval_lt p)
      have Hlx := Lib.hid hlx
      clear hend hlx
      by_cases hsg : 64 ≤ y.toNat % 128
      · have hs1 : sval p = (uval p : Int) - ((128 ^ p.length : Nat) : Int) := by unfold sval; rw [Hlx.out, if_pos hsg]
        rw [← hs1] at hlast2
        have t6 := bit6_pos hsg
        have hsh : ∀ w : World, (Op.shift .shl .i64 1 .u64 (7 * (k : Int) + 7)).run Tryz.prog w = .ok (.int .i64 (shl1 p.length)) w := by
          intro w
          unfold Op.shift shl1
          rw [if_neg (by omega), ← Hend.out]
          have e1 : (7 * (k : Int) + 7).toNat = 7 * (k + 1) := by omega
          simp only [e1, IntKind.bits, Int.one_mul, wrap_i64_eq]
          rfl
        have Hs1 := Lib.hid hs1
        clear hs1
        generalize wrap64 ((uval (p.take k) : Nat) : Int) = z at *
        generalize hz' : wrap64 ((uval p : Nat) : Int) = z' at *
        generalize hz2 : wrap64 (sval p) = z2 at *
        generalize shl1 p.length = sh at *
        have Hz2 := Lib.hid hz2
        have Hz' := Lib.hid hz'
        clear hz' hz2
        go_wp2_with (go_at_call 73; refine (BufReadByte_some b v l (off + k) rd' _ Hbuf.out hlt).mono ?_; rw [Hgk.out]; rintro e w1 ⟨rfl, hbuf2, hf2⟩; have Hbuf2 := Lib.hid hbuf2; have Hf2 := Lib.hid hf2; clear hbuf2 hf2)
        go_ret2
        refine ⟨?_, ?_, Hfr.out.trans Hf2.out (fun _ h _ => h)⟩
        · rw [Hz2.out, ← Hend.out]; rfl
        · rw [← Hend.out]; exact Hbuf2.out
      · have hs1 : sval p = (uval p : Int) := by unfold sval; rw [Hlx.out, if_neg hsg, Int.sub_zero]
        have t6 := bit6_neg hsg
        have Hs1 := Lib.hid hs1
        clear hs1 hlast2
        generalize wrap64 ((uval (p.take k) : Nat) : Int) = z at *
        generalize hz' : wrap64 ((uval p : Nat) : Int) = z' at *
        have Hz' := Lib.hid hz'
        clear hz'
        go_wp2_with (go_at_call 73; refine (BufReadByte_some b v l (off + k) rd' _ Hbuf.out hlt).mono ?_; rw [Hgk.out]; rintro e w1 ⟨rfl, hbuf2, hf2⟩; have Hbuf2 := Lib.hid hbuf2; have Hf2 := Lib.hid hf2; clear hbuf2 hf2)
        go_ret2
        refine ⟨?_, ?_, Hfr.out.trans Hf2.out (fun _ h _ => h)⟩
        · rw [Hs1.out, Hz'.out, ← Hend.out]; rfl
        · rw [← Hend.out]; exact Hbuf2.out
    · have t1 := top_bit_set (fun h => hend (Hlast.out.1 h))
      have hk1 : k + 1 < p.length := by omega
      generalize hz : wrap64 ((uval (p.take k) : Nat) : Int) = z at *
      generalize hz' : wrap64 ((uval (p.take (k + 1)) : Nat) : Int) = z' at *
      have Hz' := Lib.hid hz'
      clear hz hz' hend
      go_wp2_with (go_at_call 73; refine (BufReadByte_some b v l (off + k) rd' _ Hbuf.out hlt).mono ?_; rw [Hgk.out]; rintro e w1 ⟨rfl, hbuf2, hf2⟩; have Hbuf2 := Lib.hid hbuf2; have Hf2 := Lib.hid hf2; clear hbuf2 hf2)
      go_roundw
      case rel => exact ⟨k + 1, true, hk1, by rw [Hz'.out], by go_num, by go_num, by simpa [Nat.add_assoc] using Hbuf2.out, Hfr.out.trans Hf2.out (fun _ h _ => h)⟩
      case measure => simp [intOf]; omega
end Go.Proofs.YtahohmdfllgedaaGreat

namespace Go.Proofs.YtahohmdfllgedaaGreat
open Go.RowKit

set_option maxRecDepth 100000 in
set_option maxHeartbeats 2000000 in
theorem BufBytes_r (b : Nat) (v : Value) (l : List UInt8) (off : Nat) (rd : Bool) (w : World) (h : BufR w b v l off rd) (hp : 0 < l.length) :
    Calls Tryz.prog 78 #[.pointer (some ⟨b, 0, none⟩)] w fun e w' => (∃ a c, e = .returned (.slice a (l.length - off) c) ∧ Sl w (.slice a (l.length - off) c) (vbs (l.drop off)) ∧
      (∀ g, (Value.slice a (l.length - off) c).ownBlock = some g → v.ownBlock = some g)) ∧ ∃ k, w' = w.drewN k := by
  obtain ⟨hb, hs, hne, ho, hl⟩ := h
  obtain ⟨a, cc, rfl, h1, h2, h3, h4⟩ := hs.shape
  obtain ⟨gs, os, rfl, hc⟩ := h3 hp
  unfold maxLen at h2
  have c0 : w.cell? ⟨b, 0, none⟩ = some (.slice (some ⟨gs, os, none⟩) l.length cc) := by rw [blk_cell hb]; rfl
  have c1 : w.cell? ⟨b, 1, none⟩ = some (.int .i64 (off : Int)) := by rw [blk_cell hb]; rfl
  have Hc : Hid (Cells w gs (os + off) (vbs (l.drop off))) := by have := hc.drop off; show Cells _ _ _ _; simpa [List.map_drop] using this
  have Hl : Hid ((vbs (l.drop off)).length = l.length - off) := by show _ = _; simp
  have hlen : (off : Int) ≤ (l.length : Int) := by omega
  have hcap : (off : Int) ≤ (cc : Int) := by omega
  have H1 := Lib.hid h1
  have H2 := Lib.hid h2
  clear hb hs hne h3 h4 hc
  by_cases hcc : cc = off
  · subst hcc
    have hz : l.length = cc := by omega
    have Hz := Lib.hid hz
    clear hz
    go_enter Tryz.func78, Tryz.ntmps78
    go_wp2_with fail
    go_quiet (fail)
    go_wp2
    go_ret
    have hz0 : l.length - cc = 0 := by have := Hz.out; omega
    have hz1 : l.drop cc = [] := List.eq_nil_of_length_eq_zero (by simpa using hz0)
    rw [hz0, hz1]
    exact ⟨⟨_, _, rfl, sl_mk rfl (by omega) (by unfold maxLen; omega) (fun i v hi => by simp at hi), fun g hg => hg⟩, _, rfl⟩
  · go_enter Tryz.func78, Tryz.ntmps78
    go_wp2_with fail
    go_quiet (fail)
    go_wp2
    go_ret
    exact ⟨⟨_, _, rfl, sl_mk Hl.out.symm (by have := H1.out; omega) (by unfold maxLen; have := H2.out; omega) Hc.out, fun g hg => hg⟩, _, rfl⟩

/-- A common entry in the making: the entry's block, the buffer over its bytes. -/
structure CI (w0 w : World) (pb bb total : Nat) (ev : Value) (mb cb nb : Nat) (fv : Value) (L : Nat) (cs : Array Value) (vb : Value) (body : List UInt8) (off : Nat) : Prop where
  pc : PC w pb bb total ev mb (.pointer (some ⟨cb, 0, none⟩)) fv L
  ci : w.heap[cb]? = some (.cells cs 138 (0, 0))
  bf : ∃ rd, BufR w nb vb body off rd
  fr : Fr [pb, cb] w0 w
  d1 : pb ≠ cb
  d2 : nb ≠ pb
  d3 : nb ≠ cb
  v1 : ∀ g, vb.ownBlock = some g → g ≠ cb ∧ g ≠ pb
  nw : w0.heap.size ≤ nb

section
variable {w0 w w' : World} {pb bb total : Nat} {ev : Value} {mb cb nb : Nat} {fv : Value} {L : Nat} {cs : Array Value} {vb : Value} {body : List UInt8} {off off' : Nat}
/-- Behind a call that read from the buffer. -/
theorem CI.call (h : CI w0 w pb bb total ev mb cb nb fv L cs vb body off) {rd' : Bool} (hb : BufR w' nb vb body off' rd') (hf : Fr [nb] w w') : CI w0 w' pb bb total ev mb cb nb fv L cs vb body off' :=
  ⟨h.pc.fr hf (by simpa using h.d2.symm), hf.get h.ci (by simpa using h.d3.symm), ⟨_, hb⟩, h.fr.trans hf (fun i hi hlt => by simp at hi; have := h.nw; omega), h.d1, h.d2, h.d3, h.v1, h.nw⟩
/-- Behind a store into the entry. -/
theorem CI.store (h : CI w0 w pb bb total ev mb cb nb fv L cs vb body off) (k : Nat) (u : Value) : CI w0 (w.setCell ⟨cb, k, none⟩ u) pb bb total ev mb cb nb fv L (cs.setIfInBounds k u) vb body off := by
  have hf : Fr [cb] w (w.setCell ⟨cb, k, none⟩ u) := (Fr.refl _ _).setCell (.inl (by simp)) _
  obtain ⟨rd, hb⟩ := h.bf
  exact ⟨h.pc.fr hf (by simpa using h.d1), blk_set h.ci k u, ⟨rd, hb.fr hf (by simpa using h.d3) (fun g hg => by simpa using (h.v1 g hg).1)⟩, h.fr.trans hf (fun i hi _ => by simp at hi; simp [hi]), h.d1, h.d2, h.d3, h.v1, h.nw⟩
theorem CI.idle (h : CI w0 w pb bb total ev mb cb nb fv L cs vb body off) (hf : Fr [] w w') : CI w0 w' pb bb total ev mb cb nb fv L cs vb body off := by
  obtain ⟨rd, hb⟩ := h.bf
  exact ⟨h.pc.fr hf (by simp), hf.get h.ci (by simp), ⟨rd, hb.fr hf (by simp) (by simp)⟩, h.fr.then hf, h.d1, h.d2, h.d3, h.v1, h.nw⟩
end

end Go.Proofs.YtahohmdfllgedaaGreat

namespace Go.Proofs.YtahohmdfllgedaaGreat
open Go.RowKit

set_option maxRecDepth 100000 in
set_option maxHeartbeats 20000000 in
theorem parseCIE_any (pb bb total : Nat) (ev : Value) (mb cb : Nat) (fv : Value) (L : Nat) (v : Value) (D : List UInt8) (off : Nat) (rd : Bool) (N : Int) (w : World)
    (h : PC w pb bb total ev mb (.pointer (some ⟨cb, 0, none⟩)) fv L) (hc : w.heap[cb]? = some (.cells #[.int .u32 (L : Int), .int .u32 N, .int .u8 0, .string ⟨#[]⟩, .int .u64 0, .int .i64 0, .int .u64 0, .slice none 0 0, .int .u64 0, .int .u8 0] 138 (0, 0))) (hb : BufR w bb v D off rd)
    (hv : ∀ g, v.ownBlock = some g → g < w.heap.size ∧ g ≠ pb ∧ g ≠ bb ∧ g ≠ cb) (hd1 : pb ≠ bb) (hd2 : pb ≠ cb) (hd3 : bb ≠ cb)
    (ver : UInt8) (code : Nat) (off1 : Int) (ret : Nat) (ins rest : List UInt8) (hcode : code < 18446744073709551616) (ho1 : -9223372036854775808 ≤ off1) (ho2 : off1 ≤ 9223372036854775807) (hret : ret < 18446744073709551616)
    (body : List UInt8) (hbody : body = [ver, 0] ++ uleb code ++ sleb off1 ++ uleb ret ++ ins) (hD : D.drop off = body ++ rest) (hL : L = body.length) (hL2 : L < 1073741824) :
    Calls Tryz.prog 54 #[.pointer (some ⟨pb, 0, none⟩)] w fun e w' => e = .returned (.func (.func 40) #[] #[]) ∧
      PC w' pb bb total ev mb (.pointer (some ⟨cb, 0, none⟩)) fv 0 ∧ (∃ a n c, w'.heap[cb]? = some (.cells #[.int .u32 (L : Int), .int .u32 N, vb ver, .string ⟨#[]⟩, .int .u64 (code : Int), .int .i64 off1, .int .u64 (ret : Int), (.slice a n c), .int .u64 0, .int .u8 0] 138 (0, 0)) ∧ Sl w' (.slice a n c) (vbs ins) ∧
        (∀ g, (Value.slice a n c).ownBlock = some g → v.ownBlock = some g)) ∧ (∃ rd', BufR w' bb v D (off + L) rd') ∧ Fr [pb, bb, cb] w w' := by
  have hDl : off + L ≤ D.length := by
    have := congrArg List.length hD; rw [List.length_drop, List.length_append] at this; have := hb.2.2.2.1; omega
  have hDp : 0 < D.length := by rw [hbody] at hL; simp at hL; omega
  have htake : (D.drop off).take L = body := by rw [hD, hL, List.take_left]
  have hcap : body.length ≤ 1099511627776 := by omega
  have HB0 : Hid (body[0]? = some ver) := by show _ = _; rw [hbody]; rfl
  have HB1 : Hid (body[1]? = some 0) := by show _ = _; rw [hbody]; rfl
  have HD2 : Hid (body.drop 2 = uleb code ++ (sleb off1 ++ uleb ret ++ ins)) := by show _ = _; rw [hbody]; simp
  have HD3 : Hid (body.drop (2 + (uleb code).length) = sleb off1 ++ (uleb ret ++ ins)) := by show _ = _; rw [← List.drop_drop, HD2.out, List.drop_left, List.append_assoc]
  have HD4 : Hid (body.drop (2 + (uleb code).length + (sleb off1).length) = uleb ret ++ ins) := by show _ = _; rw [← List.drop_drop, HD3.out, List.drop_left]
  have HD5 : Hid (body.drop (2 + (uleb code).length + (sleb off1).length + (uleb ret).length) = ins) := by show _ = _; rw [← List.drop_drop, HD4.out, List.drop_left]
  have hbl : body.length = 2 + (uleb code).length + (sleb off1).length + (uleb ret).length + ins.length := by rw [hbody]; simp; omega
  have hbl2 : 2 ≤ body.length := by omega
  have E1 := uleb_le10 hcode
  have E2 := sleb_le10 ho1 ho2
  have E3 := uleb_le10 hret
  have U1 : Hid (uval (uleb code) % M64 = code) := by show _ = _; rw [uval_uleb]; exact Nat.mod_eq_of_lt hcode
  have U2 : Hid (wrap64 (sval (sleb off1)) = off1) := by show _ = _; rw [sval_sleb]; exact wrap64_id ho1 ho2
  have U3 : Hid (uval (uleb ret) % M64 = ret) := by show _ = _; rw [uval_uleb]; exact Nat.mod_eq_of_lt hret
  have hwl : IntKind.i64.wrap (L : Int) = (L : Int) := IntWalk.i64_in _ (by omega)
  have c1 : w.cell? ⟨pb, 1, none⟩ = some (.pointer (some ⟨bb, 0, none⟩)) := blk_cell h 1
  have c7 : w.cell? ⟨pb, 7, none⟩ = some (.int .u32 (L : Int)) := blk_cell h 7
  have H := Lib.hid h
  have Hc := Lib.hid hc
  have Hb := Lib.hid hb
  have Hv := Lib.hid hv
  have Hd1 := Lib.hid hd1
  have Hd2 := Lib.hid hd2
  have Hd3 := Lib.hid hd3
  have HT := Lib.hid htake
  have HL := Lib.hid hL
  have HBL := Lib.hid hbl
  clear h hc hb hv hd1 hd2 hd3 hbody hD hL htake hcode ho1 ho2 hret hbl
  go_enter Tryz.func54, Tryz.ntmps54
  go_wp2_with fail
  go_region_held3 (fun w' => w'.cell? ⟨pb, 1, none⟩ = some (.pointer (some ⟨bb, 0, none⟩)) ∧ w'.cell? ⟨pb, 7, none⟩ = some (.int .u32 (L : Int)))
    (first | exact ⟨c1, c7⟩ | exact ⟨HF2.out.cell c1 (by simpa using Hd1.out), HF2.out.cell c7 (by simpa using Hd1.out)⟩)
    ((go_at_call 72; go_must (refine (BufNext_any bb v D off L rd _ (Hb.out.fr (Fr.drew (Fr.refl [] w)) (by simp) (by simp)) hDl hDp).mono ?_); rw [HT.out]; rintro e w2 ⟨⟨a2, ca2, rfl, hs2, ho2⟩, hb2, hf2⟩; have HS2 := Lib.hid hs2; have HO2 := Lib.hid ho2; have HB2 := Lib.hid hb2; have HF2 : Hid (Fr [bb] w w2) := (Fr.refl [bb] w).drew.trans hf2 (fun i h _ => h); clear hs2 ho2 hb2 hf2))
  clear c1 c7 hwl
  go_wp2_with (go_at_call 38; refine (NewBuffer_any a2 L ca2 _).mono ?_; rintro e w3 ⟨rfl, rfl⟩)
  have hg3 : Fr [] w2 (w2.alloc (.cells #[.slice a2 L ca2, .int .i64 0, .bool false] 132 (0, 0))) := (Fr.refl _ _).alloc _
  have hb3 : BufR (w2.alloc (.cells #[.slice a2 L ca2, .int .i64 0, .bool false] 132 (0, 0))) w2.heap.size (.slice a2 L ca2) body 0 false :=
    BufR_new HS2.out (fun g hg => by have := (Hv.out g (HO2.out g hg)).1; have := HF2.out.size; omega) hcap
  have C3 : Hid (CI w2 (w2.alloc (.cells #[.slice a2 L ca2, .int .i64 0, .bool false] 132 (0, 0))) pb bb total ev mb cb w2.heap.size fv L #[.int .u32 (L : Int), .int .u32 N, .int .u8 0, .string ⟨#[]⟩, .int .u64 0, .int .i64 0, .int .u64 0, .slice none 0 0, .int .u64 0, .int .u8 0] (.slice a2 L ca2) body 0) :=
    ⟨(H.out.fr HF2.out (by simpa using Hd1.out)).fr hg3 (by simp), hg3.get (HF2.out.get Hc.out (by simpa using Hd3.out.symm)) (by simp), ⟨false, hb3⟩, hg3.mono (by simp), Hd2.out,
      (by have := lt_heap H.out; have := HF2.out.size; omega), (by have := lt_heap Hc.out; have := HF2.out.size; omega), (fun g hg => by have := Hv.out g (HO2.out g hg); exact ⟨this.2.2.2, this.2.1⟩), Nat.le_refl _⟩
  generalize w2.alloc (.cells #[.slice a2 L ca2, .int .i64 0, .bool false] 132 (0, 0)) = w3 at *
  clear hg3 hb3
  obtain ⟨nb, hnb⟩ : ∃ nb, w2.heap.size = nb := ⟨_, rfl⟩
  rw [hnb] at C3 ⊢
  clear hnb
  go_wp2_with fail
  have k5 : w3.cell? ⟨pb, 5, none⟩ = some (.pointer (some ⟨cb, 0, none⟩)) := blk_cell C3.out.pc 5
  obtain ⟨rd3, hb3⟩ := C3.out.bf
  have B3 : Hid (BufR w3.drew nb (.slice a2 L ca2) body 0 rd3) := hb3.fr (Fr.drew (Fr.refl [] w3)) (by simp) (by simp)
  clear hb3
  go_region_held3 (fun w' => w'.cell? ⟨pb, 5, none⟩ = some (.pointer (some ⟨cb, 0, none⟩)))
    (first | exact k5 | exact k6 | with_reducible exact KB.out _)
    ((go_at_call 73; go_must (refine (BufReadByte_some nb _ body 0 rd3 _ B3.out (by omega)).mono ?_); rw [show body[0]'(by omega) = ver from Option.some.inj ((List.getElem?_eq_getElem (by omega)).symm.trans HB0.out)]; rintro e u4 ⟨rfl, hb4, hf4⟩; have C4' := Lib.hid (C3.out.call hb4 ((Fr.refl [nb] w3).drew.trans hf4 (fun i h _ => h))); have k6 : u4.cell? ⟨pb, 5, none⟩ = some (.pointer (some ⟨cb, 0, none⟩)) := blk_cell C4'.out.pc 5; have s : u4.cell? ⟨cb, 2, none⟩ = some (.int .u8 0) := blk_cell C4'.out.ci 2; have z : u4.frozen? ⟨cb, 2, none⟩ = false := blk_free C4'.out.ci 2; have KB : Hid (∀ n, (u4.setCell ⟨cb, 2, none⟩ n).cell? ⟨pb, 5, none⟩ = some (.pointer (some ⟨cb, 0, none⟩))) := fun n => blk_cell (C4'.out.store 2 n).pc 5; clear hb4 hf4))
  have hC4 := C4'.out.store 2 (vb ver)
  generalize u4.setCell ⟨cb, 2, none⟩ (vb ver) = w4 at *
  have C4 : Hid (CI w2 w4 pb bb total ev mb cb nb fv L #[.int .u32 (L : Int), .int .u32 N, vb ver, .string ⟨#[]⟩, .int .u64 0, .int .i64 0, .int .u64 0, .slice none 0 0, .int .u64 0, .int .u8 0] (.slice a2 L ca2) body 1) := hC4
  clear hC4 s z KB k5 k6 C4' C3
  go_wp2_with fail
  have k5 : w4.cell? ⟨pb, 5, none⟩ = some (.pointer (some ⟨cb, 0, none⟩)) := blk_cell C4.out.pc 5
  obtain ⟨rd4, hb4⟩ := C4.out.bf
  have B4 : Hid (BufR w4.drew nb (.slice a2 L ca2) body 1 rd4) := hb4.fr (Fr.drew (Fr.refl [] w4)) (by simp) (by simp)
  clear hb4
  go_region_held3 (fun w' => w'.cell? ⟨pb, 5, none⟩ = some (.pointer (some ⟨cb, 0, none⟩)))
    (first | exact k5 | exact k6 | with_reducible exact KB.out _)
    ((go_at_call 74; go_must (refine (uReadString_empty nb _ body 1 rd4 _ B4.out (by omega) (Option.some.inj ((List.getElem?_eq_getElem (by omega)).symm.trans HB1.out))).mono ?_); rintro e u5 ⟨rfl, hb5, hf5⟩; have C5' := Lib.hid (C4.out.call hb5 ((Fr.refl [nb] w4).drew.trans hf5 (fun i h _ => h))); have k6 : u5.cell? ⟨pb, 5, none⟩ = some (.pointer (some ⟨cb, 0, none⟩)) := blk_cell C5'.out.pc 5; have s : u5.cell? ⟨cb, 3, none⟩ = some (.string ⟨#[]⟩) := blk_cell C5'.out.ci 3; have z : u5.frozen? ⟨cb, 3, none⟩ = false := blk_free C5'.out.ci 3; have KB : Hid (∀ n, (u5.setCell ⟨cb, 3, none⟩ n).cell? ⟨pb, 5, none⟩ = some (.pointer (some ⟨cb, 0, none⟩))) := fun n => blk_cell (C5'.out.store 3 n).pc 5; clear hb5 hf5))
  have hC5 := C5'.out.store 3 (.string ⟨#[]⟩)
  generalize u5.setCell ⟨cb, 3, none⟩ (.string ⟨#[]⟩) = w5 at *
  have C5 : Hid (CI w2 w5 pb bb total ev mb cb nb fv L #[.int .u32 (L : Int), .int .u32 N, vb ver, .string ⟨#[]⟩, .int .u64 0, .int .i64 0, .int .u64 0, .slice none 0 0, .int .u64 0, .int .u8 0] (.slice a2 L ca2) body 2) := hC5
  clear hC5 s z KB k5 k6 C5' C4
  go_wp2_with (go_at_call 71; refine (parsingEH_any pb bb total ev mb _ fv L _ C5.out.pc).mono ?_; rintro e w' ⟨rfl, rfl⟩)
  have k5 : w5.cell? ⟨pb, 5, none⟩ = some (.pointer (some ⟨cb, 0, none⟩)) := blk_cell C5.out.pc 5
  obtain ⟨rd5, hb5⟩ := C5.out.bf
  have B5 : Hid (BufR w5.drew nb (.slice a2 L ca2) body 2 rd5) := hb5.fr (Fr.drew (Fr.refl [] w5)) (by simp) (by simp)
  clear hb5
  go_region_held3 (fun w' => w'.cell? ⟨pb, 5, none⟩ = some (.pointer (some ⟨cb, 0, none⟩)))
    (first | exact k5 | exact k6 | with_reducible exact KB.out _)
    ((go_at_call 37; go_must (refine (lDecU_any nb _ body 2 rd5 _ B5.out (uleb code) _ HD2.out (uleb_ended _) E1).mono ?_); rw [U1.out]; rintro e u6 ⟨rfl, hb6, hf6⟩; have C6' := Lib.hid (C5.out.call hb6 ((Fr.refl [nb] w5).drew.trans hf6 (fun i h _ => h))); have k6 : u6.cell? ⟨pb, 5, none⟩ = some (.pointer (some ⟨cb, 0, none⟩)) := blk_cell C6'.out.pc 5; have s : u6.cell? ⟨cb, 4, none⟩ = some (.int .u64 0) := blk_cell C6'.out.ci 4; have z : u6.frozen? ⟨cb, 4, none⟩ = false := blk_free C6'.out.ci 4; have KB : Hid (∀ n, (u6.setCell ⟨cb, 4, none⟩ n).cell? ⟨pb, 5, none⟩ = some (.pointer (some ⟨cb, 0, none⟩))) := fun n => blk_cell (C6'.out.store 4 n).pc 5; clear hb6 hf6))
  have hC6 := C6'.out.store 4 (.int .u64 (code : Int))
  generalize u6.setCell ⟨cb, 4, none⟩ (.int .u64 (code : Int)) = w6 at *
  have C6 : Hid (CI w2 w6 pb bb total ev mb cb nb fv L #[.int .u32 (L : Int), .int .u32 N, vb ver, .string ⟨#[]⟩, .int .u64 (code : Int), .int .i64 0, .int .u64 0, .slice none 0 0, .int .u64 0, .int .u8 0] (.slice a2 L ca2) body (2 + (uleb code).length)) := hC6
  clear hC6 s z KB k5 k6 C6' C5
  go_wp2_with fail
  have k5 : w6.cell? ⟨pb, 5, none⟩ = some (.pointer (some ⟨cb, 0, none⟩)) := blk_cell C6.out.pc 5
  obtain ⟨rd6, hb6⟩ := C6.out.bf
  have B6 : Hid (BufR w6.drew nb (.slice a2 L ca2) body (2 + (uleb code).length) rd6) := hb6.fr (Fr.drew (Fr.refl [] w6)) (by simp) (by simp)
  clear hb6
  go_region_held3 (fun w' => w'.cell? ⟨pb, 5, none⟩ = some (.pointer (some ⟨cb, 0, none⟩)))
    (first | exact k5 | exact k6 | with_reducible exact KB.out _)
    ((go_at_call 75; go_must (refine (lDecS_any nb _ body (2 + (uleb code).length) rd6 _ B6.out (sleb off1) _ HD3.out (sleb_ended _) E2).mono ?_); rw [U2.out]; rintro e u7 ⟨rfl, hb7, hf7⟩; have C7' := Lib.hid (C6.out.call hb7 ((Fr.refl [nb] w6).drew.trans hf7 (fun i h _ => h))); have k6 : u7.cell? ⟨pb, 5, none⟩ = some (.pointer (some ⟨cb, 0, none⟩)) := blk_cell C7'.out.pc 5; have s : u7.cell? ⟨cb, 5, none⟩ = some (.int .i64 0) := blk_cell C7'.out.ci 5; have z : u7.frozen? ⟨cb, 5, none⟩ = false := blk_free C7'.out.ci 5; have KB : Hid (∀ n, (u7.setCell ⟨cb, 5, none⟩ n).cell? ⟨pb, 5, none⟩ = some (.pointer (some ⟨cb, 0, none⟩))) := fun n => blk_cell (C7'.out.store 5 n).pc 5; clear hb7 hf7))
  have hC7 := C7'.out.store 5 (.int .i64 off1)
  generalize u7.setCell ⟨cb, 5, none⟩ (.int .i64 off1) = w7 at *
  have C7 : Hid (CI w2 w7 pb bb total ev mb cb nb fv L #[.int .u32 (L : Int), .int .u32 N, vb ver, .string ⟨#[]⟩, .int .u64 (code : Int), .int .i64 off1, .int .u64 0, .slice none 0 0, .int .u64 0, .int .u8 0] (.slice a2 L ca2) body (2 + (uleb code).length + (sleb off1).length)) := hC7
  clear hC7 s z KB k5 k6 C7' C6
  go_wp2_with (go_at_call 71; refine (parsingEH_any pb bb total ev mb _ fv L _ C7.out.pc).mono ?_; rintro e w' ⟨rfl, rfl⟩)
  have k5 : w7.cell? ⟨pb, 5, none⟩ = some (.pointer (some ⟨cb, 0, none⟩)) := blk_cell C7.out.pc 5
  obtain ⟨rd7, hb7⟩ := C7.out.bf
  have B7 : Hid (BufR w7.drew nb (.slice a2 L ca2) body (2 + (uleb code).length + (sleb off1).length) rd7) := hb7.fr (Fr.drew (Fr.refl [] w7)) (by simp) (by simp)
  clear hb7
  go_region_held3 (fun w' => w'.cell? ⟨pb, 5, none⟩ = some (.pointer (some ⟨cb, 0, none⟩)))
    (first | exact k5 | exact k6 | with_reducible exact KB.out _)
    ((go_at_call 37; go_must (refine (lDecU_any nb _ body (2 + (uleb code).length + (sleb off1).length) rd7 _ B7.out (uleb ret) _ HD4.out (uleb_ended _) E3).mono ?_); rw [U3.out]; rintro e u8 ⟨rfl, hb8, hf8⟩; have C8' := Lib.hid (C7.out.call hb8 ((Fr.refl [nb] w7).drew.trans hf8 (fun i h _ => h))); have k6 : u8.cell? ⟨pb, 5, none⟩ = some (.pointer (some ⟨cb, 0, none⟩)) := blk_cell C8'.out.pc 5; have s : u8.cell? ⟨cb, 6, none⟩ = some (.int .u64 0) := blk_cell C8'.out.ci 6; have z : u8.frozen? ⟨cb, 6, none⟩ = false := blk_free C8'.out.ci 6; have KB : Hid (∀ n, (u8.setCell ⟨cb, 6, none⟩ n).cell? ⟨pb, 5, none⟩ = some (.pointer (some ⟨cb, 0, none⟩))) := fun n => blk_cell (C8'.out.store 6 n).pc 5; clear hb8 hf8))
  have hC8 := C8'.out.store 6 (.int .u64 (ret : Int))
  generalize u8.setCell ⟨cb, 6, none⟩ (.int .u64 (ret : Int)) = w8 at *
  have C8 : Hid (CI w2 w8 pb bb total ev mb cb nb fv L #[.int .u32 (L : Int), .int .u32 N, vb ver, .string ⟨#[]⟩, .int .u64 (code : Int), .int .i64 off1, .int .u64 (ret : Int), .slice none 0 0, .int .u64 0, .int .u8 0] (.slice a2 L ca2) body (2 + (uleb code).length + (sleb off1).length + (uleb ret).length)) := hC8
  clear hC8 s z KB k5 k6 C8' C7
  have k5 : w8.cell? ⟨pb, 5, none⟩ = some (.pointer (some ⟨cb, 0, none⟩)) := blk_cell C8.out.pc 5
  have s9 : w8.cell? ⟨cb, 9, none⟩ = some (.int .u8 0) := blk_cell C8.out.ci 9
  have z9 : w8.frozen? ⟨cb, 9, none⟩ = false := blk_free C8.out.ci 9
  have hC9 : CI w2 (w8.setCell ⟨cb, 9, none⟩ (.int .u8 0)) pb bb total ev mb cb nb fv L #[.int .u32 (L : Int), .int .u32 N, vb ver, .string ⟨#[]⟩, .int .u64 (code : Int), .int .i64 off1, .int .u64 (ret : Int), .slice none 0 0, .int .u64 0, .int .u8 0] (.slice a2 L ca2) body (2 + (uleb code).length + (sleb off1).length + (uleb ret).length) := C8.out.store 9 (.int .u8 0)
  have C9 := Lib.hid hC9
  clear hC9
  go_wp2_with (go_at_call 71; refine (parsingEH_any pb bb total ev mb _ fv L _ C9.out.pc).mono ?_; rintro e w' ⟨rfl, rfl⟩)
  generalize w8.setCell ⟨cb, 9, none⟩ (.int .u8 0) = w9 at *
  clear k5 s9 z9 C8
  have k5 : w9.cell? ⟨pb, 5, none⟩ = some (.pointer (some ⟨cb, 0, none⟩)) := blk_cell C9.out.pc 5
  obtain ⟨rd9, hb9⟩ := C9.out.bf
  have B9 : Hid (BufR w9.drew nb (.slice a2 L ca2) body (2 + (uleb code).length + (sleb off1).length + (uleb ret).length) rd9) := hb9.fr (Fr.drew (Fr.refl [] w9)) (by simp) (by simp)
  have hm9 : body.length - (2 + (uleb code).length + (sleb off1).length + (uleb ret).length) = ins.length := by have := HBL.out; omega
  have HM9 := Lib.hid hm9
  clear hb9 hm9
  go_region_held3 (fun w' => w'.cell? ⟨pb, 5, none⟩ = some (.pointer (some ⟨cb, 0, none⟩)))
    (first | exact k5 | exact k6 | with_reducible exact KB.out _)
    ((go_at_call 78; go_must (refine (BufBytes_r nb _ body _ rd9 _ B9.out (by omega)).mono ?_); rw [HM9.out, HD5.out]; rintro e uq ⟨⟨a10, c10, rfl, hs10, ho10⟩, kq, huq⟩; have C10' := Lib.hid (C9.out.idle (w' := uq) (huq ▸ ((Fr.refl [] w9).drew.drewN kq))); have HS10 : Hid (Sl uq (.slice a10 ins.length c10) (vbs ins)) := hs10.fr (bs := []) (huq ▸ ((Fr.refl [] w9.drew).drewN kq)) (by simp); have HO10 := Lib.hid ho10; have k6 : uq.cell? ⟨pb, 5, none⟩ = some (.pointer (some ⟨cb, 0, none⟩)) := blk_cell C10'.out.pc 5; have s : uq.cell? ⟨cb, 7, none⟩ = some (.slice none 0 0) := blk_cell C10'.out.ci 7; have z : uq.frozen? ⟨cb, 7, none⟩ = false := blk_free C10'.out.ci 7; have KB : Hid (∀ n, (uq.setCell ⟨cb, 7, none⟩ n).cell? ⟨pb, 5, none⟩ = some (.pointer (some ⟨cb, 0, none⟩))) := fun n => blk_cell (C10'.out.store 7 n).pc 5; clear hs10 ho10 huq))
  have hC10 := C10'.out.store 7 (.slice a10 ins.length c10)
  have hgc : Fr [cb] uq (uq.setCell ⟨cb, 7, none⟩ (.slice a10 ins.length c10)) := (Fr.refl _ _).setCell (.inl (by simp)) _
  have hS11 : Sl (uq.setCell ⟨cb, 7, none⟩ (.slice a10 ins.length c10)) (.slice a10 ins.length c10) (vbs ins) := HS10.out.fr hgc (fun g hg => by have := (C9.out.v1 g (HO10.out g hg)).1; simpa using this)
  generalize uq.setCell ⟨cb, 7, none⟩ (.slice a10 ins.length c10) = w10 at *
  have C10 : Hid (CI w2 w10 pb bb total ev mb cb nb fv L #[.int .u32 (L : Int), .int .u32 N, vb ver, .string ⟨#[]⟩, .int .u64 (code : Int), .int .i64 off1, .int .u64 (ret : Int), (.slice a10 ins.length c10), .int .u64 0, .int .u8 0] (.slice a2 L ca2) body (2 + (uleb code).length + (sleb off1).length + (uleb ret).length)) := hC10
  have HS11 := Lib.hid hS11
  clear hC10 hgc hS11 s z KB k5 k6 C10' HS10
  have s7 : w10.cell? ⟨pb, 7, none⟩ = some (.int .u32 (L : Int)) := blk_cell C10.out.pc 7
  have z7 : w10.frozen? ⟨pb, 7, none⟩ = false := blk_free C10.out.pc 7
  go_wp2_with fail
  go_ret
  have hf11 : Fr [pb] w10 (w10.setCell ⟨pb, 7, none⟩ (.int .u32 0)) := (Fr.refl _ _).setCell (.inl (by simp)) _
  have F2 : Fr [pb, cb] w2 (w10.setCell ⟨pb, 7, none⟩ (.int .u32 0)) := C10.out.fr.trans (hf11.mono (bs := [pb, cb]) (by simp)) (fun i h _ => h)
  refine ⟨rfl, PC.setLen C10.out.pc 0, ⟨a10, ins.length, c10, ?_, ?_, fun g hg => HO2.out g (HO10.out g hg)⟩, ⟨_, HB2.out.fr F2 (by simpa using ⟨Hd1.out.symm, Hd3.out⟩) (fun g hg => by have := Hv.out g hg; simpa using ⟨this.2.1, this.2.2.2⟩)⟩, (HF2.out.mono (bs := [pb, bb, cb]) (by simp)).trans (F2.mono (bs := [pb, bb, cb]) (by simp +contextual)) (fun i h _ => h)⟩
  · exact hf11.get C10.out.ci (by simpa using Hd2.out.symm)
  · exact HS11.out.fr hf11 (fun g hg => by have := (Hv.out g (HO2.out g (HO10.out g hg))).2.1; simpa using this)
end Go.Proofs.YtahohmdfllgedaaGreat

namespace Go.Proofs.YtahohmdfllgedaaGreat
open Go.RowKit

set_option maxRecDepth 100000 in
set_option maxHeartbeats 2000000 in
theorem addrSum_any (x : Int) (b : Nat) (v : Value) (l : List UInt8) (off : Nat) (w : World) (h : RdrR w b v l off) :
    Calls Tryz.prog 80 #[.int .u64 x, .pointer (some ⟨b, 0, none⟩)] w fun e w' => (∃ y, e = .returned (.int .u64 y)) ∧ RdrR w' b v l off ∧ Fr [b] w w' := by
  have H := Lib.hid h
  clear h
  go_enter Tryz.func80, Tryz.ntmps80
  go_wp2_with (go_at_call 81; refine (RdrSeek_zero b v l off _ H.out).mono ?_)
  rintro e w' ⟨rfl, hb, hf⟩
  have Hb := Lib.hid hb
  have Hf := Lib.hid hf
  clear hb hf
  go_wp2_with fail
  go_ret
  exact ⟨⟨_, rfl⟩, Hb.out, Hf.out⟩

set_option maxRecDepth 100000 in
set_option maxHeartbeats 4000000 in
theorem readEncodedPtr_zero (pb bb total : Nat) (ev : Value) (mb : Nat) (cv fv : Value) (len : Nat) (x : Int) (b : Nat) (v : Value) (l : List UInt8) (off : Nat) (w : World) (hp : PC w pb bb total ev mb cv fv len) (h : RdrR w b v l off) (hl : off + 8 ≤ l.length)
    (hv : ∀ g, v.ownBlock = some g → g < w.heap.size) :
    Calls Tryz.prog 77 #[.pointer (some ⟨pb, 0, none⟩), .int .u64 x, .iface 182 (.pointer (some ⟨b, 0, none⟩)), .int .u8 0] w fun e w' =>
      e = .returned (.int .u64 ((leval ((l.drop off).take 8) : Nat) : Int)) ∧ RdrR w' b v l (off + 8) ∧ Fr [b] w w' := by
  have c8 : w.cell? ⟨pb, 8, none⟩ = some (.int .i64 8) := blk_cell hp 8
  have hb := lt_heap h.1
  have H := Lib.hid h
  have Hv := Lib.hid hv
  obtain ⟨val, hval⟩ : ∃ val, leval ((l.drop off).take 8) = val := ⟨_, rfl⟩
  rw [hval]
  have Hval := Lib.hid hval
  have hb0 : bits .and .u8 0 240 = 0 := by decide +kernel
  clear h hv hp hval
  go_enter Tryz.func77, Tryz.ntmps77
  go_wp2_with (go_at_call 94; go_must (refine (ReadUintRaw_8 false b v l off _ H.out hl hb Hv.out).mono ?_); rw [Hval.out]; rintro e w2 ⟨rfl, hb2, hf2⟩; have Hb2 := Lib.hid hb2; have Hf2 := Lib.hid hf2; clear hb2 hf2)
  go_ret
  exact ⟨rfl, Hb2.out, Hf2.out⟩

theorem slicePF : SliceT Tryz.prog 63 70 (.pointer none) 1 8 := ⟨Tryz.underlying63, by kernel_rfl, rfl, by decide⟩

/-- A frame's entry in the making. -/
structure FI (bs : List Nat) (w0 w : World) (pb bb total : Nat) (ev : Value) (mb fb rb : Nat) (cv : Value) (L : Nat) (cs : Array Value) (vb : Value) (body : List UInt8) (off : Nat) : Prop where
  pc : PC w pb bb total ev mb cv (.pointer (some ⟨fb, 0, none⟩)) L
  fd : w.heap[fb]? = some (.cells cs 114 (0, 0))
  rd : RdrR w rb vb body off
  fr : Fr bs w0 w
  m1 : pb ∈ bs
  m2 : fb ∈ bs
  d1 : pb ≠ fb
  d2 : rb ≠ pb
  d3 : rb ≠ fb
  v1 : ∀ g, vb.ownBlock = some g → g ≠ fb ∧ g ≠ pb
  v2 : ∀ g, vb.ownBlock = some g → g < w0.heap.size
  nw : w0.heap.size ≤ rb
section
variable {bs : List Nat} {w0 w w' : World} {pb bb total : Nat} {ev : Value} {mb fb rb : Nat} {cv : Value} {L : Nat} {cs : Array Value} {vb : Value} {body : List UInt8} {off off' : Nat}
theorem FI.call (h : FI bs w0 w pb bb total ev mb fb rb cv L cs vb body off) (hb : RdrR w' rb vb body off') (hf : Fr [rb] w w') : FI bs w0 w' pb bb total ev mb fb rb cv L cs vb body off' :=
  ⟨h.pc.fr hf (by simpa using h.d2.symm), hf.get h.fd (by simpa using h.d3.symm), hb, h.fr.trans hf (fun i hi hlt => by simp at hi; have := h.nw; omega), h.m1, h.m2, h.d1, h.d2, h.d3, h.v1, h.v2, h.nw⟩
theorem FI.idle (h : FI bs w0 w pb bb total ev mb fb rb cv L cs vb body off) (hf : Fr [] w w') : FI bs w0 w' pb bb total ev mb fb rb cv L cs vb body off :=
  ⟨h.pc.fr hf (by simp), hf.get h.fd (by simp), h.rd.fr hf (by simp) (by simp), h.fr.then hf, h.m1, h.m2, h.d1, h.d2, h.d3, h.v1, h.v2, h.nw⟩
theorem FI.store (h : FI bs w0 w pb bb total ev mb fb rb cv L cs vb body off) (k : Nat) (u : Value) : FI bs w0 (w.setCell ⟨fb, k, none⟩ u) pb bb total ev mb fb rb cv L (cs.setIfInBounds k u) vb body off := by
  have hf : Fr [fb] w (w.setCell ⟨fb, k, none⟩ u) := (Fr.refl _ _).setCell (.inl (by simp)) _
  exact ⟨h.pc.fr hf (by simpa using h.d1), blk_set h.fd k u, h.rd.fr hf (by simpa using h.d3) (fun g hg => by simpa using (h.v1 g hg).1), h.fr.trans hf (fun i hi _ => by simp at hi; subst hi; first | exact h.m1 | exact h.m2), h.m1, h.m2, h.d1, h.d2, h.d3, h.v1, h.v2, h.nw⟩
theorem FI.setEntries (h : FI bs w0 w pb bb total ev mb fb rb cv L cs vb body off) (n : Value) : FI bs w0 (w.setCell ⟨pb, 3, none⟩ n) pb bb total n mb fb rb cv L cs vb body off := by
  have hf : Fr [pb] w (w.setCell ⟨pb, 3, none⟩ n) := (Fr.refl _ _).setCell (.inl (by simp)) _
  exact ⟨h.pc.setEntries n, hf.get h.fd (by simpa using h.d1.symm), h.rd.fr hf (by simpa using h.d2) (fun g hg => by simpa using (h.v1 g hg).2), h.fr.trans hf (fun i hi _ => by simp at hi; subst hi; first | exact h.m1 | exact h.m2), h.m1, h.m2, h.d1, h.d2, h.d3, h.v1, h.v2, h.nw⟩
theorem FI.setLen (h : FI bs w0 w pb bb total ev mb fb rb cv L cs vb body off) (n : Nat) : FI bs w0 (w.setCell ⟨pb, 7, none⟩ (.int .u32 (n : Int))) pb bb total ev mb fb rb cv n cs vb body off := by
  have hf : Fr [pb] w (w.setCell ⟨pb, 7, none⟩ (.int .u32 (n : Int))) := (Fr.refl _ _).setCell (.inl (by simp)) _
  exact ⟨h.pc.setLen n, hf.get h.fd (by simpa using h.d1.symm), h.rd.fr hf (by simpa using h.d2) (fun g hg => by simpa using (h.v1 g hg).2), h.fr.trans hf (fun i hi _ => by simp at hi; subst hi; first | exact h.m1 | exact h.m2), h.m1, h.m2, h.d1, h.d2, h.d3, h.v1, h.v2, h.nw⟩
/-- Behind an append to a row elsewhere. -/
theorem FI.app (h : FI bs w0 w pb bb total ev mb fb rb cv L cs vb body off) {o : List Nat} (hf : Fr o w w') (ho : ∀ k ∈ o, k ≠ pb ∧ k ≠ fb ∧ k ≠ rb ∧ vb.ownBlock ≠ some k) : FI (o ++ bs) w0 w' pb bb total ev mb fb rb cv L cs vb body off :=
  ⟨h.pc.fr hf (fun hk => (ho _ hk).1 rfl), hf.get h.fd (fun hk => (ho _ hk).2.1 rfl), h.rd.fr hf (fun hk => (ho _ hk).2.2.1 rfl) (fun _ hg hk => (ho _ hk).2.2.2 hg),
    (h.fr.mono (bs := o ++ bs) (fun _ hi _ => List.mem_append.2 (.inr hi))).trans hf (fun _ hi _ => List.mem_append.2 (.inl hi)), List.mem_append.2 (.inr h.m1), List.mem_append.2 (.inr h.m2), h.d1, h.d2, h.d3, h.v1, h.v2, h.nw⟩
end
end Go.Proofs.YtahohmdfllgedaaGreat
