/- laws.apart: true only where the frames stand in growing order and do not overlap. -/
import Derived.Test.YtahohmdfllgedaaSec
namespace Go.Proofs.Ytahohmdfllgedaa
open Go.RowKit

def allFr (l : List LCommon) : List LFrame := l.flatMap fun c => c.frames
theorem allFr_take (l : List LCommon) (k : Nat) (hk : k < l.length) : allFr (l.take (k + 1)) = allFr (l.take k) ++ l[k].frames := by
  rw [allFr, List.take_succ_eq_append_getElem hk, List.flatMap_append]; simp [allFr]
/-- Frames stand in growing order, and do not overlap. -/
def Apart (l : List LFrame) : Prop := ∀ i j, j < i → ∀ (hi : i < l.length) (hj : j < l.length), l[j].start + l[j].size ≤ l[i].start

def IsSl (v : Value) : Prop := ∃ a n c, v = .slice a n c
abbrev FC := Nat × Nat × Value
def cellsOf (ps : List FC) : List Value := ps.flatMap fun p => [.int .u64 (p.1 : Int), .int .u64 (p.2.1 : Int), p.2.2]
theorem cellsOf_app (ps qs : List FC) : cellsOf (ps ++ qs) = cellsOf ps ++ cellsOf qs := by simp [cellsOf]
theorem cellsOf_len (ps : List FC) : (cellsOf ps).length = ps.length * 3 := by
  induction ps with
  | nil => rfl
  | cons p ps ih => simp [cellsOf] at ih ⊢; omega
theorem cellsOf_get (ps : List FC) : ∀ i (h : i < ps.length), (cellsOf ps)[i * 3]? = some (.int .u64 (ps[i].1 : Int)) ∧ (cellsOf ps)[i * 3 + 1]? = some (.int .u64 (ps[i].2.1 : Int)) ∧ (cellsOf ps)[i * 3 + 2]? = some ps[i].2.2 := by
  induction ps with
  | nil => intro i h; simp at h
  | cons p ps ih =>
    intro i h
    cases i with
    | zero => exact ⟨rfl, rfl, rfl⟩
    | succ i =>
      have := ih i (by simpa using h)
      have e : ∀ r, (cellsOf (p :: ps))[(i + 1) * 3 + r]? = (cellsOf ps)[i * 3 + r]? := by
        intro r
        rw [show (i + 1) * 3 + r = i * 3 + r + 1 + 1 + 1 by omega]; rfl
      exact ⟨(e 0).trans this.1, (e 1).trans this.2.1, (e 2).trans this.2.2⟩
theorem cellsOf_one (ps : List FC) (h : ∀ p ∈ ps, IsSl p.2.2) : ∀ u ∈ cellsOf ps, u.oneCell' = true := by
  intro u hu
  obtain ⟨p, hp, hu⟩ := List.mem_flatMap.1 hu
  simp at hu
  rcases hu with rfl | rfl | rfl
  · rfl
  · rfl
  · obtain ⟨_, _, _, e⟩ := h p hp; rw [e]; rfl

/-- The cells of a row of frames that came in. -/
theorem frames_cells {W : World} {a : Option Addr} {n c : Nat} {l : List LFrame} (h : RSl 3 (RFrame W) W (.slice a n c) l) :
    n = l.length ∧ (a = none → n = 0 ∧ c = 0) ∧ ∃ ps : List FC, ps.map (fun p => (p.1, p.2.1)) = l.map (fun f => (f.start, f.size)) ∧ (∀ p ∈ ps, IsSl p.2.2) ∧
      ∀ ad, a = some ad → ∀ j u, (cellsOf ps)[j]? = some u → W.cell? (ad.add j) = some u := by
  rcases h with ⟨hv, rfl⟩ | ⟨x, c', hv, h1, h2, h3⟩
  · simp only [Value.slice.injEq] at hv
    obtain ⟨rfl, rfl, rfl⟩ := hv
    exact ⟨rfl, fun _ => ⟨rfl, rfl⟩, [], rfl, by simp, fun ad h => by cases h⟩
  · simp only [Value.slice.injEq] at hv
    obtain ⟨rfl, rfl, rfl⟩ := hv
    refine ⟨rfl, fun h => (by cases h), ?_⟩
    have hd : ∀ i : Fin l.length, ∃ dv : Value, IsSl dv ∧ W.cell? (x.add (i.val * 3)) = some (.int .u64 (l[i].start : Int)) ∧ W.cell? (x.add (i.val * 3 + 1)) = some (.int .u64 (l[i].size : Int)) ∧ W.cell? (x.add (i.val * 3 + 2)) = some dv := by
      intro i
      obtain ⟨vs, -, ⟨cv, rfl, hr, -, -⟩, hc⟩ := h3 i.val i.isLt
      obtain ⟨b, d, rfl⟩ := rsl_form hr
      exact ⟨_, ⟨_, _, _, rfl⟩, hc 0 _ rfl, hc 1 _ rfl, hc 2 _ rfl⟩
    obtain ⟨dv, hdv⟩ := Classical.axiomOfChoice hd
    refine ⟨List.ofFn fun i : Fin l.length => (l[i].start, l[i].size, dv i), ?_, ?_, ?_⟩
    · apply List.ext_getElem
      · simp
      · intro i h1 h2; simp
    · intro p hp
      obtain ⟨i, rfl⟩ := (List.mem_ofFn).1 hp
      exact (hdv i).1
    · intro ad had j u hj
      obtain rfl := Option.some.inj had
      have hlt : j < l.length * 3 := by
        have := (List.getElem?_eq_some_iff.1 hj).1
        rw [cellsOf_len] at this; simpa using this
      have hi : j / 3 < l.length := by omega
      have hg := cellsOf_get (List.ofFn fun i : Fin l.length => (l[i].start, l[i].size, dv i)) (j / 3) (by simpa using hi)
      have hs := hdv ⟨j / 3, hi⟩
      simp only [List.getElem_ofFn] at hg
      have hm : j % 3 = 0 ∨ j % 3 = 1 ∨ j % 3 = 2 := by omega
      rcases hm with hm | hm | hm
      · have e : j / 3 * 3 = j := by omega
        have e2 := hg.1
        rw [e, hj] at e2
        rw [Option.some.inj e2]; have := hs.2.1; simp only [e] at this; exact this
      · have e : j / 3 * 3 + 1 = j := by omega
        have e2 := hg.2.1
        rw [e, hj] at e2
        rw [Option.some.inj e2]; have := hs.2.2.1; simp only [e] at this; exact this
      · have e : j / 3 * 3 + 2 = j := by omega
        have e2 := hg.2.2
        rw [e, hj] at e2
        rw [Option.some.inj e2]; have := hs.2.2.2; simp only [e] at this; exact this

theorem sliceF : SliceT Try.prog 42 46 (.agg #[.int .u64 0, .int .u64 0, .slice none 0 0]) 3 40 := ⟨Try.underlying42, by kernel_rfl, rfl, by decide⟩

/-- A row of frames of the call's own, read. -/
theorem own_frames {w : World} {base : Nat} {a : Option Addr} {c : Nat} {ps : List FC} (h : w.ownsRow base 46 3 (.slice a ps.length c) ps.length (cellsOf ps)) (i : Nat) (hi : i < ps.length) :
    ∃ g, a = some ⟨g, 0, none⟩ ∧ ps.length ≤ c ∧ c ≤ maxLen ∧ ∀ j (hj : j < ps.length), w.cell? ⟨g, j * 3, none⟩ = some (.int .u64 (ps[j].1 : Int)) ∧ w.cell? ⟨g, j * 3 + 1, none⟩ = some (.int .u64 (ps[j].2.1 : Int)) ∧ w.cell? ⟨g, j * 3 + 2, none⟩ = some ps[j].2.2 := by
  have hc := fun (g : Nat) (hg : (Value.slice a ps.length c).ownBlock = some g) => h.cells (g := g) hg
  rcases h.2 with ⟨hv, h0⟩ | ⟨g, cap, cur, hv, hb, hg, hnc, hcm, hcs, htake⟩
  · simp at hv; omega
  · simp only [Value.slice.injEq] at hv
    obtain ⟨rfl, -, rfl⟩ := hv
    refine ⟨g, rfl, hnc, hcm, fun j hj => ?_⟩
    have hh := cellsOf_get ps j hj
    have hc2 := hc g rfl
    simp only [Addr.add_lit, Nat.zero_add] at hc2
    exact ⟨hc2 _ _ hh.1, hc2 _ _ hh.2.1, hc2 _ _ hh.2.2⟩

set_option maxRecDepth 100000 in
set_option maxHeartbeats 4000000 in
theorem apart_any (W : World) (v : Value) (l : List LCommon) (w : World) (h : RList W v l) (hw : Fr [] W w) (hl : l.length ≤ 8) (hr : ∀ c ∈ l, rcB c = true) :
    Calls Try.prog 21 #[v] w fun e w' => ∃ b : Bool, e = .returned (.bool b) ∧ (b = true → Apart (allFr l)) ∧ Fr [] w w' := by
  obtain ⟨a0, c0, rfl, h1, h2⟩ := RSl.shape h
  have H := Lib.hid h
  have Hw := Lib.hid hw
  have Hr := Lib.hid hr
  clear h hw hr
  go_enter Try.func21, Try.ntmps21
  go_wp2_with fail
  go_loopw [3, 12] (fun v i wr => ∃ k : Nat, ∃ ps : List FC, ∃ a c, k ≤ l.length ∧ ps.map (fun p => (p.1, p.2.1)) = (allFr (l.take k)).map (fun f => (f.start, f.size)) ∧ i = .int .i64 (k : Int) ∧ v = .slice a ps.length c ∧
      ps.length ≤ 8 * k ∧ wr.ownsRow w.heap.size 46 3 (.slice a ps.length c) ps.length (cellsOf ps) ∧ (∀ p ∈ ps, IsSl p.2.2) ∧ Fr [] w wr) (fun _ i _ => l.length - (intOf i).toNat)
  case atStart => exact ⟨0, [], none, 0, Nat.zero_le _, rfl, rfl, rfl, Nat.zero_le _, World.ownsRow_nil _ _ _ _, by simp, Fr.refl _ _⟩
  case round =>
    obtain ⟨wo, rfl⟩ : ∃ wo : World, wo = wr := ⟨_, rfl⟩
    obtain ⟨k, ps, a, c, hk, hps, rfl, rfl, hlen, hown, hone, hfr⟩ := hrel
    have Hps := Lib.hid hps
    have Hown := Lib.hid hown
    have Hone := Lib.hid hone
    have Hfr := Lib.hid hfr
    clear hps hown hone hfr
    by_cases hlt : k < l.length
    case pos =>
      as_aux_lemma =>
      obtain ⟨g, o, ca, cc, fa, fc, rfl, d0, d1, d2, d3, d4, d5, hd, he, hi1, hi2, hi3, hi4⟩ := common_at H.out (Hw.out.then Hfr.out) k hlt
      have hstep := allFr_take l k hlt
      have hq := rc_facts (Hr.out _ (List.getElem_mem hlt))
      generalize l[k] = x at *
      obtain ⟨xv, xcode, xoff, xret, xcalls, xframes⟩ := x
      simp only at d0 d1 d2 d3 d4 d5 hd he hq hstep
      have hq8 := hq.2.2.2.2.2.2.2.1
      obtain ⟨-, hn0, qs, hqs, hq1, hqc⟩ := frames_cells he
      have hql : qs.length = xframes.length := by have := congrArg List.length hqs; simpa using this
      have HS := Lib.hid (And.intro hstep hqs)
      have HQ := Lib.hid hq1
      have HN := Lib.hid hn0
      have HC := Lib.hid hqc
      clear hstep hqs hq he hd hn0 hq1 hqc hi1 hi2 hi3 hi4
      have own2 : ∀ o : Obj, (wo.alloc o).ownsRow w.heap.size 46 3 (.slice a ps.length c) ps.length (cellsOf ps) := fun o => Hown.out.alloc o
      have HO2 := Lib.hid own2
      clear own2
      go_wp2_with (at_builtin; go_must (refine wpList_app2 sliceF _ rfl _ _ rfl w.heap.size _ ps.length (cellsOf ps) rfl (HO2.out _) fa xframes.length fc (cellsOf qs) rfl (by rw [cellsOf_len]; omega) HN.out (fun ad had j u hj => (((Hw.out.then Hfr.out).alloc _).cell (HC.out ad had j u hj) (by simp))) (cellsOf_one qs HQ.out) (by omega) (by decide) (by have := Hfr.out.size; simp; omega) ?_))
      intro a' c' w1 ho1 hf1 hg1
      have Ho1 := Lib.hid ho1
      have Hf1 := Lib.hid hf1
      clear ho1 hf1 hg1
      go_wp2
      go_roundw
      case rel =>
        refine ⟨k + 1, ps ++ qs, a', c', by omega, ?_, by go_num, by rw [List.length_append, hql], by rw [List.length_append]; omega, ?_, ?_, ?_⟩
        · rw [HS.out.1, List.map_append, List.map_append, Hps.out, HS.out.2]
        · rw [List.length_append, hql, cellsOf_app]; exact Ho1.out
        · intro p hp; rcases List.mem_append.1 hp with h | h
          · exact Hone.out p h
          · exact HQ.out p h
        · exact (Hfr.out.alloc _).app (own_fr Hown.out (Fr.refl [] wo) (by simp)) (Nat.le_refl _) Hf1.out
      case measure => simp [intOf]; omega
    case neg =>
      obtain rfl : k = l.length := by omega
      clear hlt
      have hb : ∀ i (hi : i < ps.length), ps[i].1 ≤ 1099511627776 ∧ ps[i].2.1 ≤ 1048576 := by
        intro i hi
        have e := Hps.out
        rw [List.take_length] at e
        have hl2 : (allFr l).length = ps.length := by have := congrArg List.length e; simpa using this.symm
        have e2 : (ps.map (fun p => (p.1, p.2.1)))[i]? = ((allFr l).map (fun f => (f.start, f.size)))[i]? := by rw [e]
        simp [hi, hl2] at e2
        have hm : (allFr l)[i]'(by omega) ∈ allFr l := List.getElem_mem _
        obtain ⟨cc, hc1, hc2⟩ := List.mem_flatMap.1 hm
        have := fr_facts ((rc_facts (Hr.out _ hc1)).2.2.2.2.2.2.2.2.2.2 _ hc2)
        omega
      have hfin : (∀ i j, j < i → ∀ (hi : i < ps.length) (hj : j < ps.length), ps[j].1 + ps[j].2.1 ≤ ps[i].1) → Apart (allFr l) := by
        intro hh i j hji hi hj
        have e := Hps.out
        rw [List.take_length] at e
        have hl2 : (allFr l).length = ps.length := by have := congrArg List.length e; simpa using this.symm
        have e2 : ∀ i : Nat, (ps.map (fun p => (p.1, p.2.1)))[i]? = ((allFr l).map (fun f => (f.start, f.size)))[i]? := by rw [e]; simp
        have ei := e2 i
        have ej := e2 j
        simp [hi, hj, hl2 ▸ hi, hl2 ▸ hj] at ei ej
        have := hh i j hji (by omega) (by omega)
        omega
      have HB := Lib.hid hb
      have HFIN := Lib.hid hfin
      clear hb hfin
      go_wp2_with fail
      go_loopw [23] (fun s wr => ∃ i : Nat, i ≤ ps.length ∧ s = .int .i64 (i : Int) ∧ (∀ i' j, i' < i → j < i' → ∀ (hi : i' < ps.length) (hj : j < ps.length), ps[j].1 + ps[j].2.1 ≤ ps[i'].1) ∧ Fr [] wo wr) (fun s _ => ps.length - (intOf s).toNat)
      case atStart => exact ⟨0, Nat.zero_le _, rfl, fun i' _ h => by omega, Fr.refl _ _⟩
      case round =>
        obtain ⟨wi, rfl⟩ : ∃ wi : World, wi = wr := ⟨_, rfl⟩
        obtain ⟨i, hi, rfl, hall, hfi⟩ := hrel
        have Hall := Lib.hid hall
        have Hfi := Lib.hid hfi
        clear hall hfi
        by_cases hit : i < ps.length
        case neg =>
          obtain rfl : i = ps.length := by omega
          clear hit
          go_wp2
          go_ret
          exact ⟨true, rfl, fun _ => HFIN.out (fun i j hji hi hj => Hall.out i j hi hji hi hj), Hfr.out.then Hfi.out⟩
        case pos =>
          obtain ⟨g, rfl, hcap, hcm, hcell⟩ := own_frames (own_fr Hown.out Hfi.out (by simp)) i hit
          obtain ⟨d0, d1, d2⟩ := hcell i hit
          unfold maxLen at hcm
          have hbi := HB.out i hit
          have hia : (i : Int) ≤ (c : Int) := by omega
          have HC := Lib.hid hcell
          clear hcell
          obtain ⟨p, hp⟩ : ∃ p, ps[i] = p := ⟨_, rfl⟩
          rw [hp] at d0 d1 d2 hbi
          have HP := Lib.hid hp
          clear hp
          obtain ⟨pa, pn, pc, hpv⟩ : IsSl p.2.2 := by rw [← HP.out]; exact Hone.out _ (List.getElem_mem _)
          obtain ⟨pb, psz, pv⟩ := p
          simp only at d0 d1 d2 hbi hpv
          subst hpv
          obtain ⟨hbi1, hbi2⟩ := hbi
          go_wp2_with fail
          have hB1 : (wi.alloc (.cells #[.int .u64 (pb : Int), .int .u64 (psz : Int), .slice pa pn pc] 46)).heap[wi.heap.size]? = some (.cells #[.int .u64 (pb : Int), .int .u64 (psz : Int), .slice pa pn pc] 46 (0, 0)) := blk_new _ _
          have hF1 : Fr [] wi (wi.alloc (.cells #[.int .u64 (pb : Int), .int .u64 (psz : Int), .slice pa pn pc] 46)) := (Fr.refl _ _).alloc _
          generalize wi.alloc (.cells #[.int .u64 (pb : Int), .int .u64 (psz : Int), .slice pa pn pc] 46) = w1 at *
          have B1 := Lib.hid hB1
          have F1 := Lib.hid hF1
          clear hB1 hF1 d0 d1 d2
          go_loopw [32] (fun s wr => ∃ j : Nat, j ≤ i ∧ s = .int .i64 (j : Int) ∧ (∀ j', j' < j → ∀ (hj : j' < ps.length), ps[j'].1 + ps[j'].2.1 ≤ pb) ∧ Fr [] w1 wr) (fun s _ => i - (intOf s).toNat)
          case atStart => exact ⟨0, Nat.zero_le _, rfl, fun i' h => by omega, Fr.refl _ _⟩
          case round =>
            obtain ⟨wj, rfl⟩ : ∃ wj : World, wj = wr := ⟨_, rfl⟩
            obtain ⟨j, hj, rfl, hallj, hfj⟩ := hrel
            have Hallj := Lib.hid hallj
            have Hfj := Lib.hid hfj
            clear hallj hfj
            by_cases hjt : j < i
            case neg =>
              obtain rfl : j = i := by omega
              clear hjt
              go_wp2
              go_roundw
              case rel =>
                refine ⟨j + 1, by omega, by go_num, ?_, (Hfi.out.then F1.out).then Hfj.out⟩
                intro i' j' h1 h2 h3 h4
                by_cases hij : i' = j
                · subst hij; have := Hallj.out j' h2 h4; rw [HP.out]; exact this
                · exact Hall.out i' j' (by omega) h2 h3 h4
              case measure => simp [intOf]; omega
            case pos =>
              have hjl : j < ps.length := by omega
              obtain ⟨q0, q1, q2⟩ := HC.out j hjl
              have hbj := HB.out j hjl
              obtain ⟨q, hq⟩ : ∃ q, ps[j] = q := ⟨_, rfl⟩
              rw [hq] at q0 q1 q2 hbj
              have HQ := Lib.hid hq
              obtain ⟨qa, qn, qc, hqv⟩ : IsSl q.2.2 := by rw [← hq]; exact Hone.out _ (List.getElem_mem _)
              clear hq
              obtain ⟨qb, qsz, qv⟩ := q
              simp only at q0 q1 q2 hbj hqv
              subst hqv
              obtain ⟨hbj1, hbj2⟩ := hbj
              have f0 := (F1.out.then Hfj.out).cell q0 (by simp)
              have f1 := (F1.out.then Hfj.out).cell q1 (by simp)
              have f2 := (F1.out.then Hfj.out).cell q2 (by simp)
              have k0 : (wj.alloc (.cells #[.int .u64 (qb : Int), .int .u64 (qsz : Int), .slice qa qn qc] 46)).cell? ⟨wi.heap.size, 0, none⟩ = some (.int .u64 (pb : Int)) :=
                ((Hfj.out.alloc _).cell (blk_cell B1.out 0) (by simp))
              clear q0 q1 q2
              by_cases hc : (pb : Int) < (qb : Int) + (qsz : Int)
              · go_wp2_with fail
                go_ret
                exact ⟨false, rfl, (fun h => by cases h), ((Hfr.out.then Hfi.out).then F1.out).then (Hfj.out.alloc _)⟩
              · go_wp2_with fail
                go_roundw
                case rel =>
                  refine ⟨j + 1, by omega, by go_num, ?_, Hfj.out.alloc _⟩
                  intro j' h1 h2
                  by_cases hij : j' = j
                  · subst hij; rw [HQ.out]; show qb + qsz ≤ pb; omega
                  · exact Hallj.out j' (by omega) h2
                case measure => simp [intOf]; omega
end Go.Proofs.Ytahohmdfllgedaa
