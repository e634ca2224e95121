/- A region that draws its order: what loads read holds up to the region's LAST operation, which may turn it. No program in sight.
impl.Evaluate, behind the call of Execute. Printed by gen_eet.py. -/
import Derived.StillTail
import Derived.OrdersHeld
import Derived.Deep.RegionHeld
import Derived.Test.YtahohmdfllgedaaCa12
set_option linter.unusedVariables false
set_option linter.unusedSimpArgs false
namespace Go.Proofs.Ytahohmdfllgedaa

section
variable {P : Program} {ops : Array Oper} {Q : Exit → Act → World → Prop} {md : Region.Mode} {S : World → Prop} {n : Nat}

/-- f operations are still to come ahead of number n, the last one; S holds behind each of them. -/
def wpAnyT (P : Program) (md : Region.Mode) (ops : Array Oper) (Q : Exit → Act → World → Prop) (S : World → Prop) (n : Nat) : Nat → Array Bool → Act → World → Prop
  | 0, listed, a, w => Region.ready md ops listed = [n] ∧ Region.ready md ops (listed.setIfInBounds n true) = [] ∧ wpOp P ops Q n (fun a' w' => Q .normal a' w') a w
  | f + 1, listed, a, w => Region.ready md ops listed ≠ [] ∧ ∀ i ∈ Region.ready md ops listed, wpOp P ops Q i (fun a' w' => S w' ∧ wpAnyT P md ops Q S n f (listed.setIfInBounds i true) a' w') a w

theorem wpAny_of_T : ∀ (f : Nat) (listed : Array Bool) (a : Act) (w : World), wpAnyT P md ops Q S n f listed a w → wpAny P md ops Q (f + 1) listed a w
  | 0, listed, a, w, h => by
    obtain ⟨h1, h2, h3⟩ := h
    refine ⟨fun h0 => (by rw [h1] at h0; cases h0), fun i hi => ?_⟩
    rw [h1] at hi
    obtain rfl : i = n := by simpa using hi
    exact wpOp_mono (fun a' w' hq => ⟨h2, hq⟩) h3
  | f + 1, listed, a, w, h => ⟨fun h0 => absurd h0 h.1, fun i hi => wpOp_mono (fun a' w' h' => wpAny_of_T f _ a' w' h'.2) (h.2 i hi)⟩

theorem headInv_start (hn : n < ops.size) : HeadInv md ops n (Array.replicate ops.size false) := by
  refine ⟨by simp, fun j oj _ hl => ?_, fun t _ ht => by simp [ht]⟩
  rw [getD_replicate_false] at hl; cases hl

theorem wpAnyT_first {i : Nat} {oi : Oper} {v : Value} (hs : Region.sinkB md ops n = true) (hc : Region.chainB md ops n = true) (hn : n < ops.size) (hin : i < n) (hi : ops[i]? = some oi)
    (hsel : ∀ (j : Nat) (o : Oper) cs b, ops[j]? = some o → o.op ≠ .select cs b) (hQ : ∀ c a w, Q (.panic c) (a.put oi.dst v) w → Q (.panic c) a w) :
    ∀ (f : Nat) (listed : Array Bool) (a : Act) (w : World), HeadInv md ops n listed →
      (∀ j oj, ops[j]? = some oj → j ≠ i → listed.getD j true = false → (∀ e ∈ oj.after, Region.binds md e = true → e.on ≠ i) → oi.apart ops oj = true) →
      i ∈ Region.ready md ops listed → YieldsIf P ops S oi v a → S w →
      wpAnyT P md ops Q S n f (listed.setIfInBounds i true) (a.put oi.dst v) w → wpAnyT P md ops Q S n (f + 1) listed a w := by
  intro f
  induction f with
  | zero =>
    intro listed a w inv _ hr hy hS H
    refine ⟨fun h => (by rw [h] at hr; cases hr), fun j hj => ?_⟩
    by_cases hji : j = i
    · subst hji; exact hy.wpOp hi hS ⟨hS, H⟩
    · have hm := ready_mono hj hji
      rw [H.1] at hm
      obtain rfl : j = n := by simpa using hm
      exact absurd hj (tail_waits hs hc hn inv _ i rfl hin (mem_ready.1 hr).1 _ (Nat.le_refl _))
  | succ f ih =>
    intro listed a w inv hfree hr hy hS H
    refine ⟨fun h => (by rw [h] at hr; cases hr), fun j hj => ?_⟩
    by_cases hji : j = i
    · subst hji; exact hy.wpOp hi hS ⟨hS, H⟩
    · have hjn : j < n := by
        rcases Nat.lt_or_ge j n with h | h
        · exact h
        · exact absurd hj (tail_waits hs hc hn inv _ i rfl hin (mem_ready.1 hr).1 _ h)
      have h1 := H.2 j (ready_mono hj hji)
      obtain ⟨hjun, oj, hoj, hall⟩ := mem_ready.1 hj
      have hnot : ∀ e ∈ oj.after, Region.binds md e = true → e.on ≠ i := fun e he hb heq => by
        have h1 := hall e he hb
        have h0 := getD_both (mem_ready.1 hr).1
        rw [heq, h0] at h1
        cases h1
      have h2 := wpOp_putIf hoj (hfree j oj hoj hji hjun hnot) (fun cs b => hsel i oi cs b hi) (fun cs b => hsel j oj cs b hoj) hQ hy h1
      have hfree' : ∀ k ok, ops[k]? = some ok → k ≠ i → (listed.setIfInBounds j true).getD k true = false →
          (∀ e ∈ ok.after, Region.binds md e = true → e.on ≠ i) → oi.apart ops ok = true := fun k ok hk hki hun hno => by
        refine hfree k ok hk hki ?_ hno
        by_cases hjk : j = k
        · subst hjk; exact hjun
        · rw [getD_set_ne true hjk] at hun; exact hun
      refine wpOp_mono (fun a' w' h3 => ⟨h3.2.1, ih (listed.setIfInBounds j true) a' w' (inv.set hj hjn) hfree' (ready_mono hr (Ne.symm hji)) h3.1 h3.2.1 ?_⟩) h2
      rw [Array.setIfInBounds_comm _ _ hji]
      exact h3.2.2

/-! ### the moves -/
/-- Take number i: it yields v wherever S holds. -/
theorem wpAnyT_take {i : Nat} {oi : Oper} {v : Value} {f : Nat} {listed : Array Bool} {a : Act} {w : World} (hs : Region.sinkB md ops n = true) (hc : Region.chainB md ops n = true) (hn : n < ops.size) (inv : HeadInv md ops n listed)
    (hi : ops[i]? = some oi) (hin : decide (i < n) = true) (hsel : Region.noSelect ops = true) (hf : Region.free md ops listed i = true) (hr : (Region.ready md ops listed).contains i = true)
    (hQ : ∀ c a w, Q (.panic c) (a.put oi.dst v) w → Q (.panic c) a w) (hw : Region.wanted oi (yielded ops a.tmps) = true) (hy : ∀ w, S w → (execOp a.eval oi).run P w = .ok (.value v) w) (hS : S w)
    (h : HeadInv md ops n (listed.setIfInBounds i true) → wpAnyT P md ops Q S n f (listed.setIfInBounds i true) (a.put oi.dst v) w) : wpAnyT P md ops Q S n (f + 1) listed a w := by
  have hr' : i ∈ Region.ready md ops listed := by simpa using hr
  have hin' : i < n := by simpa using hin
  exact wpAnyT_first hs hc hn hin' hi (Region.noSelect_spec hsel) hQ f listed a w inv (Region.free_spec hi hf) hr' (.inl ⟨hw, hy⟩) hS (h (inv.set hr' hin'))
/-- Number i is guarded, and not wanted. -/
theorem wpAnyT_skip {i : Nat} {oi : Oper} {f : Nat} {listed : Array Bool} {a : Act} {w : World} (hs : Region.sinkB md ops n = true) (hc : Region.chainB md ops n = true) (hn : n < ops.size) (inv : HeadInv md ops n listed)
    (hi : ops[i]? = some oi) (hin : decide (i < n) = true) (hsel : Region.noSelect ops = true) (hf : Region.free md ops listed i = true) (hr : (Region.ready md ops listed).contains i = true)
    (hQ : ∀ c a w, Q (.panic c) (a.put oi.dst undef) w → Q (.panic c) a w) (hw : Region.wanted oi (yielded ops a.tmps) = false) (hS : S w)
    (h : HeadInv md ops n (listed.setIfInBounds i true) → wpAnyT P md ops Q S n f (listed.setIfInBounds i true) (a.put oi.dst undef) w) : wpAnyT P md ops Q S n (f + 1) listed a w := by
  have hr' : i ∈ Region.ready md ops listed := by simpa using hr
  have hin' : i < n := by simpa using hin
  exact wpAnyT_first hs hc hn hin' hi (Region.noSelect_spec hsel) hQ f listed a w inv (Region.free_spec hi hf) hr' (.inr ⟨hw, rfl⟩) hS (h (inv.set hr' hin'))
/-- Number i is the only one that may come up: it is run. -/
theorem wpAnyT_run {i : Nat} {oi : Oper} {f : Nat} {listed : Array Bool} {a : Act} {w : World} (inv : HeadInv md ops n listed) (hi : ops[i]? = some oi) (hin : decide (i < n) = true) (hr : Region.ready md ops listed = [i])
    (h : ∀ K' : Act → World → Prop, Shut (∀ a w, S w → (HeadInv md ops n (listed.setIfInBounds i true) → S w → wpAnyT P md ops Q S n f (listed.setIfInBounds i true) a w) → K' a w) → if Region.wanted oi (yielded ops a.tmps) = true then Oper.wp P oi a w K' Q else K' (a.put oi.dst undef) w) :
    wpAnyT P md ops Q S n (f + 1) listed a w := by
  refine ⟨by rw [hr]; simp, fun j hj => ?_⟩
  have hri : i ∈ Region.ready md ops listed := by rw [hr]; simp
  rw [hr] at hj
  obtain rfl : j = i := by simpa using hj
  exact wpOp_step hi (fun K' hK => h K' (fun a w hS hW => hK a w ⟨hS, hW (inv.set hri (by simpa using hin)) hS⟩))
/-- The last one. -/
theorem wpAnyT_last {on : Oper} {listed : Array Bool} {a : Act} {w : World} (hi : ops[n]? = some on) (hr : Region.ready md ops listed = [n]) (hr2 : Region.ready md ops (listed.setIfInBounds n true) = [])
    (h : ∀ K' : Act → World → Prop, (∀ a w, Q .normal a w → K' a w) → if Region.wanted on (yielded ops a.tmps) = true then Oper.wp P on a w K' Q else K' (a.put on.dst undef) w) :
    wpAnyT P md ops Q S n 0 listed a w := ⟨hr, hr2, wpOp_step hi (fun K' hK => h K' hK)⟩
/-- The beginning. -/
theorem wp_region_T {id : Nat} {a : Act} {w : World} (n : Nat) (hm : P.follows .mixedOrders = true) (hsz : ops.size = n + 1) (hs : Region.sinkB .any ops n = true) (hc : Region.chainB .any ops n = true) (hS : S w.drew)
    (h : Region.sinkB .any ops n = true → Region.chainB .any ops n = true → n < ops.size → HeadInv .any ops n (Array.replicate ops.size false) → S w.drew → wpAnyT P .any ops Q S n n (Array.replicate ops.size false) a w.drew) : (Code.region id ops true).wp P Q a w := by
  refine wp_region_any hm ?_
  have h1 := wpAny_of_T _ _ _ _ (h hs hc (by omega) (headInv_start (by omega)) hS)
  have e : wpAny P .any ops Q ops.size = wpAny P .any ops Q (n + 1) := by rw [hsz]
  rw [e]; exact h1
end
end Go.Proofs.Ytahohmdfllgedaa

namespace Go.Proofs.Ytahohmdfllgedaa
open Go.RowKit

def firstRg : Code → Option Nat
  | .region n _ _ => some n
  | .seq a _ => firstRg a
  | .block _ c => firstRg c
  | .loop c => firstRg c
  | .scope c => firstRg c
  | _ => none
def tailAt (n : Nat) : Code → Option Code
  | .seq a b => if firstRg a = some n then some (.seq a b) else tailAt n b
  | _ => none
noncomputable def evTail : Code := (Try.f29.body.bind (tailAt 13)).getD .skip
theorem use_tail {P : Program} {K : Act → World → Prop} {c : Code} {Q : Exit → Act → World → Prop} {a : Act} {w : World} (h : ∀ a w, Code.wp P c Q a w → K a w) (ht : Code.wp P c Q a w) : K a w := h _ _ ht

set_option maxRecDepth 100000 in
set_option maxHeartbeats 40000000 in
theorem Ev_tail (x : LWorld) (o : Out) (w0 wc : World) (ra ma : Option Addr) (rc mc : Nat) (hpk : ∀ s, o = .fine s → (resP s).length ≤ 1000000 ∧ ∀ p ∈ resP s, (p.kind = 0 ∨ p.kind = 1 ∨ p.kind = 2) ∧ p.bytes.length ≤ 1000000)
    (s0 s1 s2 s3 s7 s8 s9 s10 s11 s12 s13 s14 s15 s16 s17 s18 s19 s20 s21 s22 s23 s24 s25 s26 s27 s28 s29 s30 s31 s32 s33 s34 s35 s36 s37 s38 s39 s40 s41 s42 s43 s44 s45 s46 s47 s48 s49 s50 s51 s52 s53 s54 s55 s56 s57 s58 s59 s60 s61 s62 s63 s64 s65 s66 s67 s68 s69 s70 s71 s72 s73 s74 s75 s76 s77 s78 s79 s80 s81 s82 s83 s84 : Value) (hcut : EvX w0 (.slice ra x.regs.length rc) (.slice ma x.mem.length mc) x o s13 s14 wc) :
    Code.wp Try.prog evTail (bodyPostD Try.prog Try.f29 (IvP x w0 o)) ⟨(s0 :: s1 :: s2 :: s3 :: .pointer (some ⟨w0.heap.size + 1, 0, none⟩) :: .pointer (some ⟨w0.heap.size + 1 + 1, 0, none⟩) :: .pointer (some ⟨w0.heap.size + 1 + 1 + 1, 0, none⟩) :: s7 :: s8 :: s9 :: s10 :: s11 :: s12 :: s13 :: s14 :: s15 :: s16 :: s17 :: s18 :: s19 :: s20 :: s21 :: s22 :: s23 :: s24 :: s25 :: s26 :: s27 :: s28 :: s29 :: s30 :: s31 :: s32 :: s33 :: s34 :: s35 :: s36 :: s37 :: s38 :: s39 :: s40 :: s41 :: s42 :: s43 :: s44 :: s45 :: s46 :: s47 :: s48 :: s49 :: s50 :: s51 :: s52 :: s53 :: s54 :: s55 :: s56 :: s57 :: s58 :: s59 :: s60 :: s61 :: s62 :: s63 :: s64 :: s65 :: s66 :: s67 :: s68 :: s69 :: s70 :: s71 :: s72 :: s73 :: s74 :: s75 :: s76 :: s77 :: s78 :: s79 :: s80 :: s81 :: s82 :: s83 :: s84 :: []).toArray, [{ target := .fn (.func 57) #[.pointer (some ⟨w0.heap.size + 1, 0, none⟩), .pointer (some ⟨w0.heap.size + 1 + 1, 0, none⟩), .pointer (some ⟨w0.heap.size + 1 + 1 + 1, 0, none⟩)], args := #[] }]⟩ wc := by
  have Hpk := Lib.hid hpk
  clear hpk
  conv => arg 2; whnf
  rcases hcut with ⟨hob, rfl, ⟨t, u, rfl⟩, hb7⟩ | ⟨s, qs, hos, rfl, hb7, how, hqs, hqb⟩
  · have HB7 := Lib.hid hb7
    have Hob := Lib.hid hob
    have c1 : wc.cell? ⟨w0.heap.size + 1, 0, none⟩ = some (vi 0) := blk_cell hb7.vb 0
    have c2 : wc.cell? ⟨w0.heap.size + 2, 0, none⟩ = some (.slice none 0 0) := blk_cell hb7.pb 0
    have c3 : wc.cell? ⟨w0.heap.size + 3, 0, none⟩ = some (.bool false) := blk_cell hb7.fb 0
    have z1 := blk_free hb7.vb 0
    have z2 := blk_free hb7.pb 0
    have z3 := blk_free hb7.fb 0
    clear hb7 hob
    go_wp2_with fail
    refine leaves_cons (f := 57) (args := #[.pointer (some ⟨w0.heap.size + 1, 0, none⟩), .pointer (some ⟨w0.heap.size + 1 + 1, 0, none⟩), .pointer (some ⟨w0.heap.size + 1 + 1 + 1, 0, none⟩)]) (by simp) (by simp [go_sem]) ?_
    refine (catch_idle _ _ _ _).mono ?_
    rintro e u' w'' ⟨rfl, rfl, rfl⟩
    have hbe := ((HB7.out.setV (vi 0)).setP (.slice none 0 0)).setF (.bool false)
    exact ⟨_, hbe.res _ rfl rfl rfl, hbe.fr, by rw [Hob.out]⟩
  · have HB7 := Lib.hid hb7
    have c2 : wc.cell? ⟨w0.heap.size + 2, 0, none⟩ = some (.slice none 0 0) := blk_cell hb7.pb 0
    obtain ⟨qa, qc, rfl⟩ := own_slice how
    have Hos := Lib.hid hos
    have How := Lib.hid how
    have Hqs := Lib.hid hqs
    have Hqb := Lib.hid hqb
    clear hb7 hos how hqs hqb
    go_wp2_with fail
    have hI0 : IpR w0 wc (resP s) 0 (.slice none 0 0) := ⟨Nat.zero_le _, [], rfl, World.ownsRow_nil _ _ _ _, by simp⟩
    go_loopw [64] (fun t64 wr => ∃ (k : Nat) (v : Value), t64 = vi (k : Int) ∧ EvB w0 wr (.slice ra x.regs.length rc) (.slice ma x.mem.length mc) x (vi (valP x s)) v (.bool false) ∧ IpR w0 wr (resP s) k v ∧ FrT [61, 68] wc wr) (fun i _ => (resP s).length - (intOf i).toNat)
    case atStart => exact ⟨0, _, rfl, HB7.out, hI0, FrT.refl _ _⟩
    case round =>
      obtain ⟨k, v, rfl, hb8, hi8, ht8⟩ := hrel
      have hk := hi8.le
      have HB8 := Lib.hid hb8
      have HI8 := Lib.hid hi8
      have HT8 := Lib.hid ht8
      clear hb8 hi8 ht8 HB7 hI0
      by_cases hlt : k < (resP s).length
      · have hlq : qs.length = (resP s).length := by rw [← Hqs.out]; simp
        have hkq : k < qs.length := by omega
        have e1 : (resP s)[k] = qs[k].1 := by simp [← Hqs.out]
        have how8 := HT8.out.own How.out (by decide)
        have hqb8 : OB w0.heap.size wr qs[k].2 qs[k].1 := (Hqb.out _ (List.getElem_mem hkq)).imp (fun ⟨a, b, c, d⟩ => ⟨a, b, c, HT8.out.own d (by decide)⟩) id
        obtain ⟨g, rfl⟩ : ∃ g, qa = some ⟨g, 0, none⟩ := by
          rcases how8.2 with ⟨_, h0⟩ | ⟨g, cap, cur, h0, _⟩
          · omega
          · simp only [Value.slice.injEq] at h0; exact ⟨g, h0.1⟩
        have hcl : ∀ j u, j < 4 → (ocell qs[k].1 qs[k].2)[j]? = some u → wr.cell? ⟨g, k * 4 + j, none⟩ = some u := fun j u hj hu => by
          have := how8.cells (g := g) rfl (k * 4 + j) u (by rw [ocells_get qs k j hkq hj]; exact hu)
          rwa [Addr.add_lit, Nat.zero_add] at this
        obtain ⟨hln, hpk2⟩ := Hpk.out s Hos.out
        obtain ⟨hkind, hbl⟩ := hpk2 (resP s)[k] (List.getElem_mem hlt)
        rw [e1] at hkind hbl
        have htk : (resP s).take (k + 1) = (resP s).take k ++ [qs[k].1] := by rw [List.take_succ_eq_append_getElem hlt, e1]
        obtain ⟨rs, hrs, hrow, hrb⟩ := HI8.out.own
        obtain ⟨va, vc, rfl⟩ := own_slice hrow
        have Htk := Lib.hid htk
        have Hrs := Lib.hid hrs
        have Hrow := Lib.hid hrow
        have Hrb := Lib.hid hrb
        have Hbl := Lib.hid hbl
        have d0 := hcl 0 _ (by omega) rfl
        have d1 := hcl 1 _ (by omega) rfl
        have d2 := hcl 2 _ (by omega) rfl
        have d3 := hcl 3 _ (by omega) rfl
        rw [Nat.add_zero] at d0
        have p2 : wr.cell? ⟨w0.heap.size + 2, 0, none⟩ = some (.slice va k vc) := blk_cell HB8.out.pb 0
        have p2d := lt_heap HB8.out.pb
        have y2 := blk_free HB8.out.pb 0
        have hwk : ∀ n : Int, n = 0 ∨ n = 1 ∨ n = 2 → IntKind.i64.wrap n = n := by rintro n (rfl | rfl | rfl) <;> rfl
        have hkw := hwk _ hkind
        have hsz0 := HB8.out.fr.size
        clear hrs hrow hrb hwk hpk2 htk hcl hkind hbl how8 hlq e1 HI8 Hqb
        generalize qs[k].1 = q at *
        generalize qs[k].2 = bv at *
        generalize hum : u64of q.value = um at *
        have Hum := Lib.hid hum
        clear hum
        rcases hqb8 with ⟨h1, h2, ⟨g2, c2, rfl⟩, hob⟩ | ⟨h1, rfl⟩
        · have Hob := Lib.hid hob
          have Hk2 := Lib.hid (And.intro h1 h2)
          clear hob h1 h2
          go_wp2_with fail
          refine wp_region_noPanic ?_
          have p3 : ∀ o, (wr.alloc o).cell? ⟨w0.heap.size + 2, 0, none⟩ = some (.slice va k vc) := fun o => ((Fr.refl [] wr).alloc o).cell p2 (by simp)
          have hbx := blk_new wr (.cells #[vi q.size, .int .u8 q.kind, .int .u64 (um : Int), .slice (some ⟨g2, 0, none⟩) q.bytes.length c2] 133)
          have Hbx := Lib.hid hbx
          clear hbx
          have HS18 : Hid (∀ w', Fr [] (wr.alloc (.cells #[vi q.size, .int .u8 q.kind, .int .u64 (um : Int), .slice (some ⟨g2, 0, none⟩) q.bytes.length c2] 133)) w' → w'.cell? ⟨w0.heap.size + 2, 0, none⟩ = some (.slice va k vc) ∧ w'.cell? ⟨wr.heap.size, 0, none⟩ = some (vi q.size) ∧ w'.cell? ⟨wr.heap.size, 1, none⟩ = some (.int .u8 q.kind) ∧ w'.cell? ⟨wr.heap.size, 2, none⟩ = some (.int .u64 (um : Int)) ∧ w'.cell? ⟨wr.heap.size, 3, none⟩ = some (.slice (some ⟨g2, 0, none⟩) q.bytes.length c2)) := fun w' f => by
            have k6 := f.get Hbx.out (by simp)
            exact ⟨(((Fr.refl [] wr).alloc _).then f).cell p2 (by simp), blk_cell k6 0, blk_cell k6 1, blk_cell k6 2, blk_cell k6 3⟩
          refine wp_region_T (S := (fun w' => w'.cell? ⟨w0.heap.size + 2, 0, none⟩ = some (.slice va k vc) ∧ w'.cell? ⟨wr.heap.size, 0, none⟩ = some (vi q.size) ∧ w'.cell? ⟨wr.heap.size, 1, none⟩ = some (.int .u8 q.kind) ∧ w'.cell? ⟨wr.heap.size, 2, none⟩ = some (.int .u64 (um : Int)) ∧ w'.cell? ⟨wr.heap.size, 3, none⟩ = some (.slice (some ⟨g2, 0, none⟩) q.bytes.length c2))) 14 (by kernel_rfl) (by kernel_rfl) (by kernel_rfl) (by kernel_rfl) ?_ (fun hsT hcT hnT inv hHeld => ?_)
          · exact HS18.out _ (Fr.refl [] _).drew
          refine wpAnyT_take (i := 0) (v := ?_) hsT hcT hnT inv rfl (by kernel_rfl) (by kernel_rfl) (by kernel_rfl) (by kernel_rfl) (fun _ _ _ h => h) (by kernel_rfl) ?_ hHeld (fun inv => ?_)
          rotate_left
          · (intro w hSw; (try dsimp only at hSw); go_simp; try with_reducible rfl)
          (try simp only [Act.put, List.setIfInBounds_toArray, List.set_cons_zero, List.set_cons_succ])
          refine wpAnyT_take (i := 1) (v := ?_) hsT hcT hnT inv rfl (by kernel_rfl) (by kernel_rfl) (by kernel_rfl) (by kernel_rfl) (fun _ _ _ h => h) (by kernel_rfl) ?_ hHeld (fun inv => ?_)
          rotate_left
          · (intro w hSw; (try dsimp only at hSw); go_simp; try with_reducible rfl)
          (try simp only [Act.put, List.setIfInBounds_toArray, List.set_cons_zero, List.set_cons_succ])
          refine wpAnyT_take (i := 2) (v := ?_) hsT hcT hnT inv rfl (by kernel_rfl) (by kernel_rfl) (by kernel_rfl) (by kernel_rfl) (fun _ _ _ h => h) (by kernel_rfl) ?_ hHeld (fun inv => ?_)
          rotate_left
          · (intro w hSw; (try dsimp only at hSw); go_simp; try with_reducible rfl)
          (try simp only [Act.put, List.setIfInBounds_toArray, List.set_cons_zero, List.set_cons_succ])
          refine wpAnyT_take (i := 3) (v := ?_) hsT hcT hnT inv rfl (by kernel_rfl) (by kernel_rfl) (by kernel_rfl) (by kernel_rfl) (fun _ _ _ h => h) (by kernel_rfl) ?_ hHeld (fun inv => ?_)
          rotate_left
          · (intro w hSw; (try dsimp only at hSw); go_simp; try with_reducible rfl)
          (try simp only [Act.put, List.setIfInBounds_toArray, List.set_cons_zero, List.set_cons_succ])
          refine wpAnyT_take (i := 4) (v := ?_) hsT hcT hnT inv rfl (by kernel_rfl) (by kernel_rfl) (by kernel_rfl) (by kernel_rfl) (fun _ _ _ h => h) (by kernel_rfl) ?_ hHeld (fun inv => ?_)
          rotate_left
          · (intro w hSw; (try dsimp only at hSw); go_simp; try with_reducible rfl)
          (try simp only [Act.put, List.setIfInBounds_toArray, List.set_cons_zero, List.set_cons_succ])
          refine wpAnyT_take (i := 5) (v := ?_) hsT hcT hnT inv rfl (by kernel_rfl) (by kernel_rfl) (by kernel_rfl) (by kernel_rfl) (fun _ _ _ h => h) (by kernel_rfl) ?_ hHeld (fun inv => ?_)
          rotate_left
          · (intro w hSw; (try dsimp only at hSw); go_simp; try with_reducible rfl)
          (try simp only [Act.put, List.setIfInBounds_toArray, List.set_cons_zero, List.set_cons_succ])
          refine wpAnyT_take (i := 6) (v := ?_) hsT hcT hnT inv rfl (by kernel_rfl) (by kernel_rfl) (by kernel_rfl) (by kernel_rfl) (fun _ _ _ h => h) (by kernel_rfl) ?_ hHeld (fun inv => ?_)
          rotate_left
          · (intro w hSw; (try dsimp only at hSw); go_simp; try with_reducible rfl)
          (try simp only [Act.put, List.setIfInBounds_toArray, List.set_cons_zero, List.set_cons_succ])
          refine wpAnyT_take (i := 7) (v := ?_) hsT hcT hnT inv rfl (by kernel_rfl) (by kernel_rfl) (by kernel_rfl) (by kernel_rfl) (fun _ _ _ h => h) (by kernel_rfl) ?_ hHeld (fun inv => ?_)
          rotate_left
          · (intro w hSw; (try dsimp only at hSw); go_simp; try with_reducible rfl)
          (try simp only [Act.put, List.setIfInBounds_toArray, List.set_cons_zero, List.set_cons_succ])
          refine wpAnyT_take (i := 8) (v := ?_) hsT hcT hnT inv rfl (by kernel_rfl) (by kernel_rfl) (by kernel_rfl) (by kernel_rfl) (fun _ _ _ h => h) (by kernel_rfl) ?_ hHeld (fun inv => ?_)
          rotate_left
          · (intro w hSw; (try dsimp only at hSw); go_simp; try with_reducible rfl)
          (try simp only [Act.put, List.setIfInBounds_toArray, List.set_cons_zero, List.set_cons_succ])
          refine wpAnyT_take (i := 9) (v := ?_) hsT hcT hnT inv rfl (by kernel_rfl) (by kernel_rfl) (by kernel_rfl) (by kernel_rfl) (fun _ _ _ h => h) (by kernel_rfl) ?_ hHeld (fun inv => ?_)
          rotate_left
          · (intro w hSw; (try dsimp only at hSw); go_simp; try with_reducible rfl)
          (try simp only [Act.put, List.setIfInBounds_toArray, List.set_cons_zero, List.set_cons_succ])
          refine wpAnyT_run (i := 10) inv rfl (by kernel_rfl) (by kernel_rfl) (fun K hK => ?_)
          go_simp
          refine (Clone_any _ q.bytes _ ((own_sl Hob.out).fr (bs := []) (((Fr.refl [] wr).alloc _).drew) (by simp)) (by have := Hbl.out; omega)).mono ?_
          rintro e w10 ⟨a10, c10, rfl, ho10, hf10⟩
          have Ho10 := Lib.hid ho10
          have F1 := Lib.hid (Fr.drew0 hf10)
          have F10 := Lib.hid (((Fr.refl [] wr).alloc _).then (Fr.drew0 hf10))
          clear ho10 hf10
          refine hK.out _ _ ?_ (fun inv hHeld => ?_)
          · exact HS18.out _ F1.out
          clear hK K
          (try simp only [Act.put, List.setIfInBounds_toArray, List.set_cons_zero, List.set_cons_succ])
          refine wpAnyT_take (i := 11) (v := ?_) hsT hcT hnT inv rfl (by kernel_rfl) (by kernel_rfl) (by kernel_rfl) (by kernel_rfl) (fun _ _ _ h => h) (by kernel_rfl) ?_ hHeld (fun inv => ?_)
          rotate_left
          · (intro w hSw; (try dsimp only at hSw); go_simp; try with_reducible rfl)
          (try simp only [Act.put, List.setIfInBounds_toArray, List.set_cons_zero, List.set_cons_succ])
          refine wpAnyT_run (i := 12) inv rfl (by kernel_rfl) (by kernel_rfl) (fun K hK => ?_)
          go_simp
          refine hK.out _ _ ?_ (fun inv hHeld => ?_)
          · exact HS18.out _ (F1.out.alloc _)
          clear hK K
          (try simp only [Act.put, List.setIfInBounds_toArray, List.set_cons_zero, List.set_cons_succ])
          have OW : Hid ((w10.alloc (.cells #[vi q.kind, .int .u64 (um : Int), vi q.size, .slice a10 q.bytes.length c10] 68)).ownsRow w0.heap.size 68 4 (.slice va k vc) k (icells rs)) := own_fr Hrow.out (F10.out.alloc _) (by simp)
          refine wpAnyT_run (i := 13) inv rfl (by kernel_rfl) (by kernel_rfl) (fun K hK => ?_)
          refine step_app4 sliceIP _ (by rfl) _ _ (by rfl) w0.heap.size _ k (icells rs) (by rfl) OW.out (some ⟨w10.heap.size, 0, none⟩) 1 1 [vi q.kind, .int .u64 (um : Int), vi q.size, .slice a10 q.bytes.length c10] (by rfl) (by rfl) (fun h => by cases h) (news_blk (blk_new w10 _)) (by simp [Value.oneCell']) (by omega) (by decide) (by have := F10.out.size; simp at this ⊢; omega) ?_
          intro a11 c11 w11 ho11 hf11 hg11 ht11
          have Ho11 := Lib.hid ho11
          have Hf11 := Lib.hid hf11
          have Ht11 := Lib.hid ht11
          have B11 := Lib.hid (ht11.get (blk_alloc (F10.out.get HB8.out.pb (by simp))) (by decide))
          have BX11 := Lib.hid (ht11.get (blk_alloc (F1.out.get Hbx.out (by simp))) (by decide))
          clear ho11 hf11 hg11 ht11
          refine hK.out _ _ ?_ (fun inv hHeld => ?_)
          · exact ⟨blk_cell B11.out 0, blk_cell BX11.out 0, blk_cell BX11.out 1, blk_cell BX11.out 2, blk_cell BX11.out 3⟩
          clear hK K
          (try simp only [Act.put, List.setIfInBounds_toArray, List.set_cons_zero, List.set_cons_succ])
          have s6 : w11.cell? ⟨w0.heap.size + 1 + 1, 0, none⟩ = some (.slice va k vc) := blk_cell B11.out 0
          have z6 : w11.frozen? ⟨w0.heap.size + 1 + 1, 0, none⟩ = false := blk_free B11.out 0
          refine wpAnyT_last rfl (by kernel_rfl) (by kernel_rfl) (fun K hK => ?_)
          go_simp
          refine hK _ _ ?_
          clear hK K
          refine NoPanic.normal ?_
          go_wp2_with fail
          go_roundw
          case rel =>
            have ht : FrT [61, 68] wr (w11.setCell ⟨w0.heap.size + 2, 0, none⟩ (.slice a11 (k + 1) c11)) := (((FrT.of0 F10.out).alloc _).trans (Ht11.out.mono (by simp))).setCell B11.out (by simp) _
            have hf : Fr [] w0 w11 := ((HB8.out.fr.then F10.out).alloc _).app (OW.out) (Nat.le_refl _) Hf11.out
            have hb11 := (((HB8.out.call (F10.out.alloc (.cells #[vi q.kind, .int .u64 (um : Int), vi q.size, .slice a10 q.bytes.length c10] 68))).frT Ht11.out hf (by decide) (by decide) (by decide) (by decide)).setP (.slice a11 (k + 1) c11))
            refine ⟨k + 1, .slice a11 (k + 1) c11, by go_num, hb11, ⟨hlt, rs ++ [(q, .slice a10 q.bytes.length c10)], by rw [List.map_append, Hrs.out, Htk.out]; rfl, ?_, fun r hr => ?_⟩, HT8.out.trans ht⟩
            · have e2 : icells (rs ++ [(q, .slice a10 q.bytes.length c10)]) = icells rs ++ [vi q.kind, .int .u64 (um : Int), vi q.size, .slice a10 q.bytes.length c10] := by simp [icells, Hum.out]
              rw [e2]
              exact ((FrT.refl [61] w11).setCell B11.out (by simp) _).own Ho11.out (by decide)
            · rcases List.mem_append.1 hr with hr | hr
              · exact (Hrb.out r hr).imp (fun ⟨p, q, o⟩ => ⟨p, q, ht.own o (by decide)⟩) id
              · simp at hr; subst hr
                exact .inl ⟨Hk2.out.1, Hk2.out.2, ((FrT.refl [61, 68] w10).alloc _ |>.trans (Ht11.out.mono (by simp)) |>.setCell B11.out (by simp) _).own (own_base Ho10.out (by have := HB8.out.fr.size; simp; omega)) (by decide)⟩
          case measure => simp [intOf]; omega
        · go_wp2_with fail
          refine wp_region_noPanic ?_
          have p3 : ∀ o, (wr.alloc o).cell? ⟨w0.heap.size + 2, 0, none⟩ = some (.slice va k vc) := fun o => ((Fr.refl [] wr).alloc o).cell p2 (by simp)
          have hbx := blk_new wr (.cells #[vi q.size, .int .u8 q.kind, .int .u64 (um : Int), .slice none 0 0] 133)
          have Hbx := Lib.hid hbx
          clear hbx
          have HS18 : Hid (∀ w', Fr [] (wr.alloc (.cells #[vi q.size, .int .u8 q.kind, .int .u64 (um : Int), .slice none 0 0] 133)) w' → w'.cell? ⟨w0.heap.size + 2, 0, none⟩ = some (.slice va k vc) ∧ w'.cell? ⟨wr.heap.size, 0, none⟩ = some (vi q.size) ∧ w'.cell? ⟨wr.heap.size, 1, none⟩ = some (.int .u8 q.kind) ∧ w'.cell? ⟨wr.heap.size, 2, none⟩ = some (.int .u64 (um : Int)) ∧ w'.cell? ⟨wr.heap.size, 3, none⟩ = some (.slice none 0 0)) := fun w' f => by
            have k6 := f.get Hbx.out (by simp)
            exact ⟨(((Fr.refl [] wr).alloc _).then f).cell p2 (by simp), blk_cell k6 0, blk_cell k6 1, blk_cell k6 2, blk_cell k6 3⟩
          refine wp_region_T (S := (fun w' => w'.cell? ⟨w0.heap.size + 2, 0, none⟩ = some (.slice va k vc) ∧ w'.cell? ⟨wr.heap.size, 0, none⟩ = some (vi q.size) ∧ w'.cell? ⟨wr.heap.size, 1, none⟩ = some (.int .u8 q.kind) ∧ w'.cell? ⟨wr.heap.size, 2, none⟩ = some (.int .u64 (um : Int)) ∧ w'.cell? ⟨wr.heap.size, 3, none⟩ = some (.slice none 0 0))) 14 (by kernel_rfl) (by kernel_rfl) (by kernel_rfl) (by kernel_rfl) ?_ (fun hsT hcT hnT inv hHeld => ?_)
          · exact HS18.out _ (Fr.refl [] _).drew
          refine wpAnyT_take (i := 0) (v := ?_) hsT hcT hnT inv rfl (by kernel_rfl) (by kernel_rfl) (by kernel_rfl) (by kernel_rfl) (fun _ _ _ h => h) (by kernel_rfl) ?_ hHeld (fun inv => ?_)
          rotate_left
          · (intro w hSw; (try dsimp only at hSw); go_simp; try with_reducible rfl)
          (try simp only [Act.put, List.setIfInBounds_toArray, List.set_cons_zero, List.set_cons_succ])
          refine wpAnyT_take (i := 1) (v := ?_) hsT hcT hnT inv rfl (by kernel_rfl) (by kernel_rfl) (by kernel_rfl) (by kernel_rfl) (fun _ _ _ h => h) (by kernel_rfl) ?_ hHeld (fun inv => ?_)
          rotate_left
          · (intro w hSw; (try dsimp only at hSw); go_simp; try with_reducible rfl)
          (try simp only [Act.put, List.setIfInBounds_toArray, List.set_cons_zero, List.set_cons_succ])
          refine wpAnyT_take (i := 2) (v := ?_) hsT hcT hnT inv rfl (by kernel_rfl) (by kernel_rfl) (by kernel_rfl) (by kernel_rfl) (fun _ _ _ h => h) (by kernel_rfl) ?_ hHeld (fun inv => ?_)
          rotate_left
          · (intro w hSw; (try dsimp only at hSw); go_simp; try with_reducible rfl)
          (try simp only [Act.put, List.setIfInBounds_toArray, List.set_cons_zero, List.set_cons_succ])
          refine wpAnyT_take (i := 3) (v := ?_) hsT hcT hnT inv rfl (by kernel_rfl) (by kernel_rfl) (by kernel_rfl) (by kernel_rfl) (fun _ _ _ h => h) (by kernel_rfl) ?_ hHeld (fun inv => ?_)
          rotate_left
          · (intro w hSw; (try dsimp only at hSw); go_simp; try with_reducible rfl)
          (try simp only [Act.put, List.setIfInBounds_toArray, List.set_cons_zero, List.set_cons_succ])
          refine wpAnyT_take (i := 4) (v := ?_) hsT hcT hnT inv rfl (by kernel_rfl) (by kernel_rfl) (by kernel_rfl) (by kernel_rfl) (fun _ _ _ h => h) (by kernel_rfl) ?_ hHeld (fun inv => ?_)
          rotate_left
          · (intro w hSw; (try dsimp only at hSw); go_simp; try with_reducible rfl)
          (try simp only [Act.put, List.setIfInBounds_toArray, List.set_cons_zero, List.set_cons_succ])
          refine wpAnyT_take (i := 5) (v := ?_) hsT hcT hnT inv rfl (by kernel_rfl) (by kernel_rfl) (by kernel_rfl) (by kernel_rfl) (fun _ _ _ h => h) (by kernel_rfl) ?_ hHeld (fun inv => ?_)
          rotate_left
          · (intro w hSw; (try dsimp only at hSw); go_simp; try with_reducible rfl)
          (try simp only [Act.put, List.setIfInBounds_toArray, List.set_cons_zero, List.set_cons_succ])
          refine wpAnyT_take (i := 6) (v := ?_) hsT hcT hnT inv rfl (by kernel_rfl) (by kernel_rfl) (by kernel_rfl) (by kernel_rfl) (fun _ _ _ h => h) (by kernel_rfl) ?_ hHeld (fun inv => ?_)
          rotate_left
          · (intro w hSw; (try dsimp only at hSw); go_simp; try with_reducible rfl)
          (try simp only [Act.put, List.setIfInBounds_toArray, List.set_cons_zero, List.set_cons_succ])
          refine wpAnyT_take (i := 7) (v := ?_) hsT hcT hnT inv rfl (by kernel_rfl) (by kernel_rfl) (by kernel_rfl) (by kernel_rfl) (fun _ _ _ h => h) (by kernel_rfl) ?_ hHeld (fun inv => ?_)
          rotate_left
          · (intro w hSw; (try dsimp only at hSw); go_simp; try with_reducible rfl)
          (try simp only [Act.put, List.setIfInBounds_toArray, List.set_cons_zero, List.set_cons_succ])
          refine wpAnyT_take (i := 8) (v := ?_) hsT hcT hnT inv rfl (by kernel_rfl) (by kernel_rfl) (by kernel_rfl) (by kernel_rfl) (fun _ _ _ h => h) (by kernel_rfl) ?_ hHeld (fun inv => ?_)
          rotate_left
          · (intro w hSw; (try dsimp only at hSw); go_simp; try with_reducible rfl)
          (try simp only [Act.put, List.setIfInBounds_toArray, List.set_cons_zero, List.set_cons_succ])
          refine wpAnyT_take (i := 9) (v := ?_) hsT hcT hnT inv rfl (by kernel_rfl) (by kernel_rfl) (by kernel_rfl) (by kernel_rfl) (fun _ _ _ h => h) (by kernel_rfl) ?_ hHeld (fun inv => ?_)
          rotate_left
          · (intro w hSw; (try dsimp only at hSw); go_simp; try with_reducible rfl)
          (try simp only [Act.put, List.setIfInBounds_toArray, List.set_cons_zero, List.set_cons_succ])
          refine wpAnyT_run (i := 10) inv rfl (by kernel_rfl) (by kernel_rfl) (fun K hK => ?_)
          go_simp
          refine (Clone_nil _).mono ?_
          rintro e w10 ⟨rfl, hw10⟩
          have F1 : Hid (Fr [] (wr.alloc (.cells #[vi q.size, .int .u8 q.kind, .int .u64 (um : Int), .slice none 0 0] 133)) w10) := by rw [hw10]; exact (Fr.refl [] _).drew
          have F10 := Lib.hid (((Fr.refl [] wr).alloc _).then F1.out)
          clear hw10
          refine hK.out _ _ ?_ (fun inv hHeld => ?_)
          · exact HS18.out _ F1.out
          clear hK K
          (try simp only [Act.put, List.setIfInBounds_toArray, List.set_cons_zero, List.set_cons_succ])
          refine wpAnyT_take (i := 11) (v := ?_) hsT hcT hnT inv rfl (by kernel_rfl) (by kernel_rfl) (by kernel_rfl) (by kernel_rfl) (fun _ _ _ h => h) (by kernel_rfl) ?_ hHeld (fun inv => ?_)
          rotate_left
          · (intro w hSw; (try dsimp only at hSw); go_simp; try with_reducible rfl)
          (try simp only [Act.put, List.setIfInBounds_toArray, List.set_cons_zero, List.set_cons_succ])
          refine wpAnyT_run (i := 12) inv rfl (by kernel_rfl) (by kernel_rfl) (fun K hK => ?_)
          go_simp
          refine hK.out _ _ ?_ (fun inv hHeld => ?_)
          · exact HS18.out _ (F1.out.alloc _)
          clear hK K
          (try simp only [Act.put, List.setIfInBounds_toArray, List.set_cons_zero, List.set_cons_succ])
          have OW : Hid ((w10.alloc (.cells #[vi q.kind, .int .u64 (um : Int), vi q.size, .slice none 0 0] 68)).ownsRow w0.heap.size 68 4 (.slice va k vc) k (icells rs)) := own_fr Hrow.out (F10.out.alloc _) (by simp)
          refine wpAnyT_run (i := 13) inv rfl (by kernel_rfl) (by kernel_rfl) (fun K hK => ?_)
          refine step_app4 sliceIP _ (by rfl) _ _ (by rfl) w0.heap.size _ k (icells rs) (by rfl) OW.out (some ⟨w10.heap.size, 0, none⟩) 1 1 [vi q.kind, .int .u64 (um : Int), vi q.size, .slice none 0 0] (by rfl) (by rfl) (fun h => by cases h) (news_blk (blk_new w10 _)) (by simp [Value.oneCell']) (by omega) (by decide) (by have := F10.out.size; simp at this ⊢; omega) ?_
          intro a11 c11 w11 ho11 hf11 hg11 ht11
          have Ho11 := Lib.hid ho11
          have Hf11 := Lib.hid hf11
          have Ht11 := Lib.hid ht11
          have B11 := Lib.hid (ht11.get (blk_alloc (F10.out.get HB8.out.pb (by simp))) (by decide))
          have BX11 := Lib.hid (ht11.get (blk_alloc (F1.out.get Hbx.out (by simp))) (by decide))
          clear ho11 hf11 hg11 ht11
          refine hK.out _ _ ?_ (fun inv hHeld => ?_)
          · exact ⟨blk_cell B11.out 0, blk_cell BX11.out 0, blk_cell BX11.out 1, blk_cell BX11.out 2, blk_cell BX11.out 3⟩
          clear hK K
          (try simp only [Act.put, List.setIfInBounds_toArray, List.set_cons_zero, List.set_cons_succ])
          have s6 : w11.cell? ⟨w0.heap.size + 1 + 1, 0, none⟩ = some (.slice va k vc) := blk_cell B11.out 0
          have z6 : w11.frozen? ⟨w0.heap.size + 1 + 1, 0, none⟩ = false := blk_free B11.out 0
          refine wpAnyT_last rfl (by kernel_rfl) (by kernel_rfl) (fun K hK => ?_)
          go_simp
          refine hK _ _ ?_
          clear hK K
          refine NoPanic.normal ?_
          go_wp2_with fail
          go_roundw
          case rel =>
            have ht : FrT [61, 68] wr (w11.setCell ⟨w0.heap.size + 2, 0, none⟩ (.slice a11 (k + 1) c11)) := (((FrT.of0 F10.out).alloc _).trans (Ht11.out.mono (by simp))).setCell B11.out (by simp) _
            have hf : Fr [] w0 w11 := ((HB8.out.fr.then F10.out).alloc _).app (OW.out) (Nat.le_refl _) Hf11.out
            have hb11 := (((HB8.out.call (F10.out.alloc (.cells #[vi q.kind, .int .u64 (um : Int), vi q.size, .slice none 0 0] 68))).frT Ht11.out hf (by decide) (by decide) (by decide) (by decide)).setP (.slice a11 (k + 1) c11))
            refine ⟨k + 1, .slice a11 (k + 1) c11, by go_num, hb11, ⟨hlt, rs ++ [(q, .slice none 0 0)], by rw [List.map_append, Hrs.out, Htk.out]; rfl, ?_, fun r hr => ?_⟩, HT8.out.trans ht⟩
            · have e2 : icells (rs ++ [(q, .slice none 0 0)]) = icells rs ++ [vi q.kind, .int .u64 (um : Int), vi q.size, .slice none 0 0] := by simp [icells, Hum.out]
              rw [e2]
              exact ((FrT.refl [61] w11).setCell B11.out (by simp) _).own Ho11.out (by decide)
            · rcases List.mem_append.1 hr with hr | hr
              · exact (Hrb.out r hr).imp (fun ⟨p, q, o⟩ => ⟨p, q, ht.own o (by decide)⟩) id
              · simp at hr; subst hr
                exact .inr ⟨h1, rfl⟩
          case measure => simp [intOf]; omega
      · obtain rfl : k = (resP s).length := by omega
        obtain ⟨rs, hrs, hrow, hrb⟩ := HI8.out.own
        obtain ⟨v1, v2, rfl⟩ := own_slice hrow
        clear hrs hrow hrb
        have c1 : wr.cell? ⟨w0.heap.size + 1, 0, none⟩ = some (vi (valP x s)) := blk_cell HB8.out.vb 0
        have c2 : wr.cell? ⟨w0.heap.size + 2, 0, none⟩ = some (.slice v1 (resP s).length v2) := blk_cell HB8.out.pb 0
        have c3 : wr.cell? ⟨w0.heap.size + 3, 0, none⟩ = some (.bool false) := blk_cell HB8.out.fb 0
        have z1 := blk_free HB8.out.vb 0
        have z2 := blk_free HB8.out.pb 0
        have z3 := blk_free HB8.out.fb 0
        clear hlt hk
        go_upto_region 20 with fail
        go_region
        all_goals
          go_wp2_with fail
          refine leaves_cons (f := 57) (args := #[.pointer (some ⟨w0.heap.size + 1, 0, none⟩), .pointer (some ⟨w0.heap.size + 1 + 1, 0, none⟩), .pointer (some ⟨w0.heap.size + 1 + 1 + 1, 0, none⟩)]) (by simp) (by simp [go_sem]) ?_
          refine (catch_idle _ _ _ _).mono ?_
          rintro e u' w'' ⟨rfl, rfl, rfl⟩
          have hbe := (((HB8.out.setV (vi (valP x s))).setP (.slice v1 (resP s).length v2)).setF (.bool true)).call ((Fr.refl [] _).drew)
          have ft := ((((FrT.refl [2, 61, 4] wr).setCell (i := 0) HB8.out.vb (by simp) (vi (valP x s))).setCell (i := 0) (HB8.out.setV (vi (valP x s))).pb (by simp) (.slice v1 (resP s).length v2)).setCell (i := 0) ((HB8.out.setV (vi (valP x s))).setP (.slice v1 (resP s).length v2)).fb (by simp) (.bool true)).drew
          have hir := (HI8.out.frT ft (by decide) (by decide)).rsl
          refine ⟨_, hbe.res _ rfl rfl rfl, hbe.fr, ?_⟩
          rw [Hos.out]
          exact ⟨_, rfl, hir⟩
end Go.Proofs.Ytahohmdfllgedaa
