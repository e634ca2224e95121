/- The machine's operations, one by one, beside the reference's.
laws.FnConstants and laws.FnOperator: whatever the input, they return true.
How the arguments of a statement are opened: what the form's reading gives the walks. -/
import Derived.Test.YtahohmdfllgedaaCa12
import Derived.Test.YtahohmdfllgedaaCa19
import Derived.Test.YtahohmdfllgedaaCa20
import Derived.Test.YtahohmdfllgedaaCa21
import Derived.Test.YtahohmdfllgedaaCa22
import Derived.Test.YtahohmdfllgedaaCa23
import Derived.Test.YtahohmdfllgedaaCa24
import Derived.Test.YtahohmdfllgedaaCa18
import Derived.Test.YtahohmdfllgedaaCa0
import Derived.Test.YtahohmdfllgedaaRows
import Derived.ProofKit
import Derived.OpenShut
import Derived.ShutString
import Derived.ChangeOld
import Derived.Below
set_option linter.unusedVariables false
set_option linter.unusedSimpArgs false
namespace Go.Proofs.Ytahohmdfllgedaa
open Go.RowKit

theorem atc {D : CxD} {l : List LCall} (hc : D.code = exprL l) {k : Nat} (hk : k < l.length) {bs : List UInt8} (hb : eopnds l[k].data (dOf l k l[k]) (eshape l[k].op).1 [l[k].a, l[k].b] = bs) :
    AtC D (pl l k + 1) bs (pl l (k + 1)) := by
  have h1 := expr_drop l k hk
  have h2 := pl_succ l k hk
  have h3 : eSz l[k] = 1 + bs.length := by rw [← eL_len l[k] (dOf l k l[k]), eL, List.length_cons, hb]; omega
  have h4 : pl l (k + 1) ≤ pl l l.length := pl_mono l (by omega)
  refine ⟨?_, by omega, by rw [hc, exprL_len]; exact h4⟩
  rw [hc, ← List.drop_drop, h1, eL, hb]
  simp
theorem atc0 {l : List LCall} {k : Nat} (hk : k < l.length) (hb : (eshape l[k].op).1 = []) : pl l k + 1 = pl l (k + 1) := by
  rw [pl_succ l k hk, eSz, eL, hb]; rfl
/-- What is known behind a step of the reference. -/
theorem RunR.step {x : LWorld} {l : List LCall} {fuel k : Nat} {s : LSt} {o : Out} (h : RunR x l (fuel + 1) k s o) (hk : k < l.length) (hloc : s.loc = none) (h1 : l[k].op ≠ 40) (h2 : l[k].op ≠ 47) :
    (doS x l[k] s).left = false ∧ (((doS x l[k] s).bad = true ∧ o = .bad) ∨ ((doS x l[k] s).bad = false ∧ RunR x l fuel (k + 1) (doS x l[k] s) o)) := by
  have e : stepS x l[k] (k + 1) s = (((k + 1 : Nat) : Int), doS x l[k] s) := by
    simp [stepS, hloc, jumpS, h1, h2]
  have hg := doS_len x l[k] s
  have hr := h.run
  rw [runS_succ hk, e] at hr
  simp only at hr
  cases hl : (doS x l[k] s).left
  · refine ⟨rfl, ?_⟩
    cases hb : (doS x l[k] s).bad
    · refine .inr ⟨rfl, ?_⟩
      simp [hl, hb] at hr
      have h5 := hg.1
      have h6 := hg.2
      exact ⟨hr, h.nl, hl, hb, by have := h.l1; omega, by have := h.l2; omega⟩
    · refine .inl ⟨rfl, ?_⟩
      simpa [hl, hb] using hr.symm
  · simp [hl] at hr
    exact absurd hr.symm h.nl
theorem StepP.ok {D : CxD} {x : LWorld} {l : List LCall} {cb fuel k : Nat} {s : LSt} {o : Out} {e : Ending} {w' : World} (hk : k < l.length) (hR : RunR x l fuel (k + 1) s o) (hloc : s.loc = none) (h : OkP D cb s.stack s.pieces (pl l (k + 1)) e w') : StepP D x l cb fuel o e w' :=
  .inr ⟨h.1, fuel, Nat.le_refl _, k + 1, s, hk, hR, .inl ⟨hloc, h.2⟩⟩
theorem good_of {D : CxD} {x : LWorld} {l : List LCall} {k : Nat} (hk : k < l.length) (f op : Nat) (ho : l[k].op = (op : Int)) (h256 : op < 256) (h150 : op ≠ 150) (h1 : op ≠ 40) (h2 : op ≠ 47) (hlut : ∀ w, OplutP f op w)
    (hcf : ∀ a b w, (callFunc f #[a, b]).run Try.prog w = .ok (.enter f #[a, b]) w)
    (hc : ∀ cb w s, CxR D cb w s.stack s.pieces (pl l k + 1) → s.loc = none → s.left = false → s.bad = false → s.stack.length ≤ 4000 → (doS x l[k] s).left = false →
      ((doS x l[k] s).bad = true ∧ Calls Try.prog f #[.int .u8 (op : Int), .pointer (some ⟨cb, 0, none⟩)] w (ErrP D)) ∨
      ((doS x l[k] s).loc = none ∧ (doS x l[k] s).bad = false ∧ Calls Try.prog f #[.int .u8 (op : Int), .pointer (some ⟨cb, 0, none⟩)] w (OkP D cb (doS x l[k] s).stack (doS x l[k] s).pieces (pl l (k + 1))))) : OpGood D x l k l[k] := by
  refine .inr ⟨f, op, ho, h256, h150, hlut, hcf, fun cb w s fuel o hcx hloc hR => ?_⟩
  obtain ⟨hl, hb⟩ := hR.step hk hloc (by rw [ho]; omega) (by rw [ho]; omega)
  rcases hc cb w s hcx hloc hR.left hR.bad (by have := hR.l1; omega) hl with ⟨h3, h4⟩ | ⟨h3, h5, h4⟩
  · rcases hb with ⟨-, hb⟩ | ⟨hb, -⟩
    · exact h4.mono fun e w' h => .inl ⟨hb, h⟩
    · rw [h3] at hb; cases hb
  · rcases hb with ⟨hb, -⟩ | ⟨-, hb2⟩
    · rw [h5] at hb; cases hb
    · exact h4.mono fun e w' h => .ok hk hb2 h3 h
theorem wrap_u64of {v : Int} (h : i64 v) : wrap64 ((u64of v : Nat) : Int) = v := by
  unfold i64 at h; unfold wrap64 u64of; omega
theorem twoS_bad (op a b : Int) {s : LSt} (h : s.bad = true) : (twoS op a b s).bad = true := by
  unfold twoS shiftS
  repeat' (refine iteInduction (motive := fun x : LSt => x.bad = true) ?_ ?_ <;> intro _)
  all_goals first | exact h | rfl
theorem two_cases (s : LSt) : (s.stack.length < 2 ∧ (popS (popS s).2).2.bad = true) ∨ ∃ ks a b, s.stack = ks ++ [a, b] ∧ popS s = (b, { s with stack := ks ++ [a] }) ∧ popS { s with stack := ks ++ [a] } = (a, { s with stack := ks }) := by
  rcases List.eq_nil_or_concat s.stack with hs | ⟨k1, b, hs⟩
  · refine .inl ⟨by rw [hs]; simp, ?_⟩
    rw [popS_nil hs, popS_nil (by exact hs)]; rfl
  · have hs' : s.stack = k1 ++ [b] := by simpa using hs
    rcases List.eq_nil_or_concat k1 with hk | ⟨ks, a, hk⟩
    · subst hk
      refine .inl ⟨by rw [hs']; simp, ?_⟩
      rw [popS_snoc hs', popS_nil rfl]; rfl
    · have hk' : k1 = ks ++ [a] := by simpa using hk
      subst hk'
      exact .inr ⟨ks, a, b, by rw [hs']; simp, popS_snoc hs', popS_snoc rfl⟩
theorem good_17 {D : CxD} {x : LWorld} {l : List LCall} {k : Nat} (hk : k < l.length) (hcode : D.code = exprL l) (ho : l[k].op = 17) (hi : i64 l[k].a) : OpGood D x l k l[k] :=
  good_of hk 93 17 ho (by decide) (by decide) (by decide) (by decide) oplut_17 (fun a b w => by kernel_rfl) fun cb w s hcx hloc hleft hbad hlen hdl => by
    have e : doS x l[k] s = pushS l[k].a s := by simp [doS, hloc, ho]
    rw [e]
    exact .inr ⟨hloc, hbad, oconsts_any D cb w s.stack s.pieces _ _ l[k].a hcx (by omega) (atc hcode hk (by rw [ho]; show eopnd _ _ _ _ ++ [] = _; rw [List.append_nil]; rfl)) hi⟩
theorem good_15 {D : CxD} {x : LWorld} {l : List LCall} {k : Nat} (hk : k < l.length) (hcode : D.code = exprL l) (ho : l[k].op = 15) (hi : i64 l[k].a) : OpGood D x l k l[k] :=
  good_of hk 91 15 ho (by decide) (by decide) (by decide) (by decide) oplut_15 (fun a b w => by kernel_rfl) fun cb w s hcx hloc hleft hbad hlen hdl => by
    have e : doS x l[k] s = pushS l[k].a s := by simp [doS, hloc, ho]
    rw [e]
    have h1 := oconst8s_any D cb w s.stack s.pieces _ _ (leL (u64of l[k].a) 8) (u64of l[k].a) hcx (by omega) (atc hcode hk (by rw [ho]; show eopnd _ _ _ _ ++ [] = _; rw [List.append_nil]; rfl)) (leL_length _ _) (by rw [leval_leL]; exact Nat.mod_eq_of_lt (u64of_lt _))
    rw [wrap_u64of hi] at h1
    exact .inr ⟨hloc, hbad, h1⟩
theorem good_25 {D : CxD} {x : LWorld} {l : List LCall} {k : Nat} (hk : k < l.length) (hcode : D.code = exprL l) (ho : l[k].op = 25) : OpGood D x l k l[k] :=
  good_of hk 99 25 ho (by decide) (by decide) (by decide) (by decide) oplut_25 (fun a b w => by kernel_rfl) fun cb w s hcx hloc hleft hbad hlen hdl => by
    have e : doS x l[k] s = pushS (if (popS s).1 < 0 then wrap64 (-(popS s).1) else (popS s).1) (popS s).2 := by simp [doS, hloc, ho, operateS]
    rw [e]
    rcases List.eq_nil_or_concat s.stack with hs | ⟨ks, v, hs⟩
    · refine .inl ⟨by simp [popS_nil hs, pushS, LSt.mkBad], ?_⟩
      exact ounary_err25 D cb w s.stack s.pieces _ hcx (by rw [hs]; rfl)
    · have hs' : s.stack = ks ++ [v] := by simpa using hs
      rw [popS_snoc hs']
      rw [hs'] at hcx
      rw [← atc0 hk (by rw [ho]; rfl)]
      refine .inr ⟨hloc, hbad, ?_⟩
      by_cases hv : v < 0
      · simp only [hv, if_true]
        have h1 := ounary_25a D cb w (ks ++ [v]) s.pieces _ v hcx (by simp) (by simp) hv
        simp only [List.length_append, List.length_singleton, Nat.add_sub_cancel, List.set_append_right, Nat.le_refl, Nat.sub_self, List.set_cons_zero] at h1
        exact h1
      · simp only [hv, if_false]
        have h1 := ounary_25b D cb w (ks ++ [v]) s.pieces _ v hcx (by simp) (by simp) hv
        simp only [List.length_append, List.length_singleton, Nat.add_sub_cancel, List.set_append_right, Nat.le_refl, Nat.sub_self, List.set_cons_zero] at h1
        exact h1
theorem good_31 {D : CxD} {x : LWorld} {l : List LCall} {k : Nat} (hk : k < l.length) (hcode : D.code = exprL l) (ho : l[k].op = 31) : OpGood D x l k l[k] :=
  good_of hk 99 31 ho (by decide) (by decide) (by decide) (by decide) oplut_31 (fun a b w => by kernel_rfl) fun cb w s hcx hloc hleft hbad hlen hdl => by
    have e : doS x l[k] s = pushS (wrap64 (-(popS s).1)) (popS s).2 := by simp [doS, hloc, ho, operateS]
    rw [e]
    rcases List.eq_nil_or_concat s.stack with hs | ⟨ks, v, hs⟩
    · refine .inl ⟨by simp [popS_nil hs, pushS, LSt.mkBad], ?_⟩
      exact ounary_err31 D cb w s.stack s.pieces _ hcx (by rw [hs]; rfl)
    · have hs' : s.stack = ks ++ [v] := by simpa using hs
      rw [popS_snoc hs']
      rw [hs'] at hcx
      rw [← atc0 hk (by rw [ho]; rfl)]
      refine .inr ⟨hloc, hbad, ?_⟩
      have h1 := ounary_31 D cb w (ks ++ [v]) s.pieces _ v hcx (by simp) (by simp)
      simp only [List.length_append, List.length_singleton, Nat.add_sub_cancel, List.set_append_right, Nat.le_refl, Nat.sub_self, List.set_cons_zero] at h1
      exact h1
theorem good_32 {D : CxD} {x : LWorld} {l : List LCall} {k : Nat} (hk : k < l.length) (hcode : D.code = exprL l) (ho : l[k].op = 32) : OpGood D x l k l[k] :=
  good_of hk 99 32 ho (by decide) (by decide) (by decide) (by decide) oplut_32 (fun a b w => by kernel_rfl) fun cb w s hcx hloc hleft hbad hlen hdl => by
    have e : doS x l[k] s = pushS (bits .xor .i64 (-1) (popS s).1) (popS s).2 := by simp [doS, hloc, ho, operateS]
    rw [e]
    rcases List.eq_nil_or_concat s.stack with hs | ⟨ks, v, hs⟩
    · refine .inl ⟨by simp [popS_nil hs, pushS, LSt.mkBad], ?_⟩
      exact ounary_err32 D cb w s.stack s.pieces _ hcx (by rw [hs]; rfl)
    · have hs' : s.stack = ks ++ [v] := by simpa using hs
      rw [popS_snoc hs']
      rw [hs'] at hcx
      rw [← atc0 hk (by rw [ho]; rfl)]
      refine .inr ⟨hloc, hbad, ?_⟩
      have h1 := ounary_32 D cb w (ks ++ [v]) s.pieces _ v hcx (by simp) (by simp)
      simp only [List.length_append, List.length_singleton, Nat.add_sub_cancel, List.set_append_right, Nat.le_refl, Nat.sub_self, List.set_cons_zero] at h1
      exact h1
theorem good_26 {D : CxD} {x : LWorld} {l : List LCall} {k : Nat} (hk : k < l.length) (hcode : D.code = exprL l) (ho : l[k].op = 26) : OpGood D x l k l[k] :=
  good_of hk 100 26 ho (by decide) (by decide) (by decide) (by decide) oplut_26 (fun a b w => by kernel_rfl) fun cb w s hcx hloc hleft hbad hlen hdl => by
    have e : doS x l[k] s = twoS 26 (popS (popS s).2).1 (popS s).1 (popS (popS s).2).2 := by simp [doS, hloc, ho, operateS]
    rw [e] at hdl ⊢
    rcases two_cases s with ⟨hs, hb⟩ | ⟨ks, a, b, hs, h1, h2⟩
    · exact .inl ⟨twoS_bad _ _ _ hb, obin_err 26 D cb w s.stack s.pieces _ hcx hs⟩
    · rw [h1, h2] at hdl ⊢
      rw [hs] at hcx
      have hlk : ks.length ≤ 4000 := by rw [hs] at hlen; simp at hlen; omega
      rw [← atc0 hk (by rw [ho]; rfl)]
      exact .inr ⟨hloc, hbad, obin_26 D cb w ks a b s.pieces _ hcx (by omega)⟩
theorem good_33 {D : CxD} {x : LWorld} {l : List LCall} {k : Nat} (hk : k < l.length) (hcode : D.code = exprL l) (ho : l[k].op = 33) : OpGood D x l k l[k] :=
  good_of hk 100 33 ho (by decide) (by decide) (by decide) (by decide) oplut_33 (fun a b w => by kernel_rfl) fun cb w s hcx hloc hleft hbad hlen hdl => by
    have e : doS x l[k] s = twoS 33 (popS (popS s).2).1 (popS s).1 (popS (popS s).2).2 := by simp [doS, hloc, ho, operateS]
    rw [e] at hdl ⊢
    rcases two_cases s with ⟨hs, hb⟩ | ⟨ks, a, b, hs, h1, h2⟩
    · exact .inl ⟨twoS_bad _ _ _ hb, obin_err 33 D cb w s.stack s.pieces _ hcx hs⟩
    · rw [h1, h2] at hdl ⊢
      rw [hs] at hcx
      have hlk : ks.length ≤ 4000 := by rw [hs] at hlen; simp at hlen; omega
      rw [← atc0 hk (by rw [ho]; rfl)]
      exact .inr ⟨hloc, hbad, obin_33 D cb w ks a b s.pieces _ hcx (by omega)⟩
theorem good_39 {D : CxD} {x : LWorld} {l : List LCall} {k : Nat} (hk : k < l.length) (hcode : D.code = exprL l) (ho : l[k].op = 39) : OpGood D x l k l[k] :=
  good_of hk 100 39 ho (by decide) (by decide) (by decide) (by decide) oplut_39 (fun a b w => by kernel_rfl) fun cb w s hcx hloc hleft hbad hlen hdl => by
    have e : doS x l[k] s = twoS 39 (popS (popS s).2).1 (popS s).1 (popS (popS s).2).2 := by simp [doS, hloc, ho, operateS]
    rw [e] at hdl ⊢
    rcases two_cases s with ⟨hs, hb⟩ | ⟨ks, a, b, hs, h1, h2⟩
    · exact .inl ⟨twoS_bad _ _ _ hb, obin_err 39 D cb w s.stack s.pieces _ hcx hs⟩
    · rw [h1, h2] at hdl ⊢
      rw [hs] at hcx
      have hlk : ks.length ≤ 4000 := by rw [hs] at hlen; simp at hlen; omega
      rw [← atc0 hk (by rw [ho]; rfl)]
      exact .inr ⟨hloc, hbad, obin_39 D cb w ks a b s.pieces _ hcx (by omega)⟩
theorem good_34 {D : CxD} {x : LWorld} {l : List LCall} {k : Nat} (hk : k < l.length) (hcode : D.code = exprL l) (ho : l[k].op = 34) : OpGood D x l k l[k] :=
  good_of hk 100 34 ho (by decide) (by decide) (by decide) (by decide) oplut_34 (fun a b w => by kernel_rfl) fun cb w s hcx hloc hleft hbad hlen hdl => by
    have e : doS x l[k] s = twoS 34 (popS (popS s).2).1 (popS s).1 (popS (popS s).2).2 := by simp [doS, hloc, ho, operateS]
    rw [e] at hdl ⊢
    rcases two_cases s with ⟨hs, hb⟩ | ⟨ks, a, b, hs, h1, h2⟩
    · exact .inl ⟨twoS_bad _ _ _ hb, obin_err 34 D cb w s.stack s.pieces _ hcx hs⟩
    · rw [h1, h2] at hdl ⊢
      rw [hs] at hcx
      have hlk : ks.length ≤ 4000 := by rw [hs] at hlen; simp at hlen; omega
      rw [← atc0 hk (by rw [ho]; rfl)]
      exact .inr ⟨hloc, hbad, obin_34 D cb w ks a b s.pieces _ hcx (by omega)⟩
theorem good_28 {D : CxD} {x : LWorld} {l : List LCall} {k : Nat} (hk : k < l.length) (hcode : D.code = exprL l) (ho : l[k].op = 28) : OpGood D x l k l[k] :=
  good_of hk 100 28 ho (by decide) (by decide) (by decide) (by decide) oplut_28 (fun a b w => by kernel_rfl) fun cb w s hcx hloc hleft hbad hlen hdl => by
    have e : doS x l[k] s = twoS 28 (popS (popS s).2).1 (popS s).1 (popS (popS s).2).2 := by simp [doS, hloc, ho, operateS]
    rw [e] at hdl ⊢
    rcases two_cases s with ⟨hs, hb⟩ | ⟨ks, a, b, hs, h1, h2⟩
    · exact .inl ⟨twoS_bad _ _ _ hb, obin_err 28 D cb w s.stack s.pieces _ hcx hs⟩
    · rw [h1, h2] at hdl ⊢
      rw [hs] at hcx
      have hlk : ks.length ≤ 4000 := by rw [hs] at hlen; simp at hlen; omega
      rw [← atc0 hk (by rw [ho]; rfl)]
      exact .inr ⟨hloc, hbad, obin_28 D cb w ks a b s.pieces _ hcx (by omega)⟩
theorem good_30 {D : CxD} {x : LWorld} {l : List LCall} {k : Nat} (hk : k < l.length) (hcode : D.code = exprL l) (ho : l[k].op = 30) : OpGood D x l k l[k] :=
  good_of hk 100 30 ho (by decide) (by decide) (by decide) (by decide) oplut_30 (fun a b w => by kernel_rfl) fun cb w s hcx hloc hleft hbad hlen hdl => by
    have e : doS x l[k] s = twoS 30 (popS (popS s).2).1 (popS s).1 (popS (popS s).2).2 := by simp [doS, hloc, ho, operateS]
    rw [e] at hdl ⊢
    rcases two_cases s with ⟨hs, hb⟩ | ⟨ks, a, b, hs, h1, h2⟩
    · exact .inl ⟨twoS_bad _ _ _ hb, obin_err 30 D cb w s.stack s.pieces _ hcx hs⟩
    · rw [h1, h2] at hdl ⊢
      rw [hs] at hcx
      have hlk : ks.length ≤ 4000 := by rw [hs] at hlen; simp at hlen; omega
      rw [← atc0 hk (by rw [ho]; rfl)]
      exact .inr ⟨hloc, hbad, obin_30 D cb w ks a b s.pieces _ hcx (by omega)⟩
theorem good_41 {D : CxD} {x : LWorld} {l : List LCall} {k : Nat} (hk : k < l.length) (hcode : D.code = exprL l) (ho : l[k].op = 41) : OpGood D x l k l[k] :=
  good_of hk 100 41 ho (by decide) (by decide) (by decide) (by decide) oplut_41 (fun a b w => by kernel_rfl) fun cb w s hcx hloc hleft hbad hlen hdl => by
    have e : doS x l[k] s = twoS 41 (popS (popS s).2).1 (popS s).1 (popS (popS s).2).2 := by simp [doS, hloc, ho, operateS]
    rw [e] at hdl ⊢
    rcases two_cases s with ⟨hs, hb⟩ | ⟨ks, a, b, hs, h1, h2⟩
    · exact .inl ⟨twoS_bad _ _ _ hb, obin_err 41 D cb w s.stack s.pieces _ hcx hs⟩
    · rw [h1, h2] at hdl ⊢
      rw [hs] at hcx
      have hlk : ks.length ≤ 4000 := by rw [hs] at hlen; simp at hlen; omega
      rw [← atc0 hk (by rw [ho]; rfl)]
      exact .inr ⟨hloc, hbad, obin_41 D cb w ks a b s.pieces _ hcx (by omega)⟩
theorem good_46 {D : CxD} {x : LWorld} {l : List LCall} {k : Nat} (hk : k < l.length) (hcode : D.code = exprL l) (ho : l[k].op = 46) : OpGood D x l k l[k] :=
  good_of hk 100 46 ho (by decide) (by decide) (by decide) (by decide) oplut_46 (fun a b w => by kernel_rfl) fun cb w s hcx hloc hleft hbad hlen hdl => by
    have e : doS x l[k] s = twoS 46 (popS (popS s).2).1 (popS s).1 (popS (popS s).2).2 := by simp [doS, hloc, ho, operateS]
    rw [e] at hdl ⊢
    rcases two_cases s with ⟨hs, hb⟩ | ⟨ks, a, b, hs, h1, h2⟩
    · exact .inl ⟨twoS_bad _ _ _ hb, obin_err 46 D cb w s.stack s.pieces _ hcx hs⟩
    · rw [h1, h2] at hdl ⊢
      rw [hs] at hcx
      have hlk : ks.length ≤ 4000 := by rw [hs] at hlen; simp at hlen; omega
      rw [← atc0 hk (by rw [ho]; rfl)]
      exact .inr ⟨hloc, hbad, obin_46 D cb w ks a b s.pieces _ hcx (by omega)⟩
theorem good_42 {D : CxD} {x : LWorld} {l : List LCall} {k : Nat} (hk : k < l.length) (hcode : D.code = exprL l) (ho : l[k].op = 42) : OpGood D x l k l[k] :=
  good_of hk 100 42 ho (by decide) (by decide) (by decide) (by decide) oplut_42 (fun a b w => by kernel_rfl) fun cb w s hcx hloc hleft hbad hlen hdl => by
    have e : doS x l[k] s = twoS 42 (popS (popS s).2).1 (popS s).1 (popS (popS s).2).2 := by simp [doS, hloc, ho, operateS]
    rw [e] at hdl ⊢
    rcases two_cases s with ⟨hs, hb⟩ | ⟨ks, a, b, hs, h1, h2⟩
    · exact .inl ⟨twoS_bad _ _ _ hb, obin_err 42 D cb w s.stack s.pieces _ hcx hs⟩
    · rw [h1, h2] at hdl ⊢
      rw [hs] at hcx
      have hlk : ks.length ≤ 4000 := by rw [hs] at hlen; simp at hlen; omega
      rw [← atc0 hk (by rw [ho]; rfl)]
      exact .inr ⟨hloc, hbad, obin_42 D cb w ks a b s.pieces _ hcx (by omega)⟩
theorem good_43 {D : CxD} {x : LWorld} {l : List LCall} {k : Nat} (hk : k < l.length) (hcode : D.code = exprL l) (ho : l[k].op = 43) : OpGood D x l k l[k] :=
  good_of hk 100 43 ho (by decide) (by decide) (by decide) (by decide) oplut_43 (fun a b w => by kernel_rfl) fun cb w s hcx hloc hleft hbad hlen hdl => by
    have e : doS x l[k] s = twoS 43 (popS (popS s).2).1 (popS s).1 (popS (popS s).2).2 := by simp [doS, hloc, ho, operateS]
    rw [e] at hdl ⊢
    rcases two_cases s with ⟨hs, hb⟩ | ⟨ks, a, b, hs, h1, h2⟩
    · exact .inl ⟨twoS_bad _ _ _ hb, obin_err 43 D cb w s.stack s.pieces _ hcx hs⟩
    · rw [h1, h2] at hdl ⊢
      rw [hs] at hcx
      have hlk : ks.length ≤ 4000 := by rw [hs] at hlen; simp at hlen; omega
      rw [← atc0 hk (by rw [ho]; rfl)]
      exact .inr ⟨hloc, hbad, obin_43 D cb w ks a b s.pieces _ hcx (by omega)⟩
theorem good_44 {D : CxD} {x : LWorld} {l : List LCall} {k : Nat} (hk : k < l.length) (hcode : D.code = exprL l) (ho : l[k].op = 44) : OpGood D x l k l[k] :=
  good_of hk 100 44 ho (by decide) (by decide) (by decide) (by decide) oplut_44 (fun a b w => by kernel_rfl) fun cb w s hcx hloc hleft hbad hlen hdl => by
    have e : doS x l[k] s = twoS 44 (popS (popS s).2).1 (popS s).1 (popS (popS s).2).2 := by simp [doS, hloc, ho, operateS]
    rw [e] at hdl ⊢
    rcases two_cases s with ⟨hs, hb⟩ | ⟨ks, a, b, hs, h1, h2⟩
    · exact .inl ⟨twoS_bad _ _ _ hb, obin_err 44 D cb w s.stack s.pieces _ hcx hs⟩
    · rw [h1, h2] at hdl ⊢
      rw [hs] at hcx
      have hlk : ks.length ≤ 4000 := by rw [hs] at hlen; simp at hlen; omega
      rw [← atc0 hk (by rw [ho]; rfl)]
      exact .inr ⟨hloc, hbad, obin_44 D cb w ks a b s.pieces _ hcx (by omega)⟩
theorem good_45 {D : CxD} {x : LWorld} {l : List LCall} {k : Nat} (hk : k < l.length) (hcode : D.code = exprL l) (ho : l[k].op = 45) : OpGood D x l k l[k] :=
  good_of hk 100 45 ho (by decide) (by decide) (by decide) (by decide) oplut_45 (fun a b w => by kernel_rfl) fun cb w s hcx hloc hleft hbad hlen hdl => by
    have e : doS x l[k] s = twoS 45 (popS (popS s).2).1 (popS s).1 (popS (popS s).2).2 := by simp [doS, hloc, ho, operateS]
    rw [e] at hdl ⊢
    rcases two_cases s with ⟨hs, hb⟩ | ⟨ks, a, b, hs, h1, h2⟩
    · exact .inl ⟨twoS_bad _ _ _ hb, obin_err 45 D cb w s.stack s.pieces _ hcx hs⟩
    · rw [h1, h2] at hdl ⊢
      rw [hs] at hcx
      have hlk : ks.length ≤ 4000 := by rw [hs] at hlen; simp at hlen; omega
      rw [← atc0 hk (by rw [ho]; rfl)]
      exact .inr ⟨hloc, hbad, obin_45 D cb w ks a b s.pieces _ hcx (by omega)⟩
theorem good_27 {D : CxD} {x : LWorld} {l : List LCall} {k : Nat} (hk : k < l.length) (hcode : D.code = exprL l) (ho : l[k].op = 27) : OpGood D x l k l[k] :=
  good_of hk 100 27 ho (by decide) (by decide) (by decide) (by decide) oplut_27 (fun a b w => by kernel_rfl) fun cb w s hcx hloc hleft hbad hlen hdl => by
    have e : doS x l[k] s = twoS 27 (popS (popS s).2).1 (popS s).1 (popS (popS s).2).2 := by simp [doS, hloc, ho, operateS]
    rw [e] at hdl ⊢
    rcases two_cases s with ⟨hs, hb⟩ | ⟨ks, a, b, hs, h1, h2⟩
    · exact .inl ⟨twoS_bad _ _ _ hb, obin_err 27 D cb w s.stack s.pieces _ hcx hs⟩
    · rw [h1, h2] at hdl ⊢
      rw [hs] at hcx
      have hlk : ks.length ≤ 4000 := by rw [hs] at hlen; simp at hlen; omega
      rw [← atc0 hk (by rw [ho]; rfl)]
      by_cases hb : b = 0
      · subst hb
        exact .inl ⟨rfl, obin_27z D cb w ks a s.pieces _ hcx⟩
      · refine .inr ?_
        simp only [twoS, hb, if_false]
        exact ⟨hloc, hbad, obin_27 D cb w ks a b s.pieces _ hcx (by omega) hb⟩
theorem good_29 {D : CxD} {x : LWorld} {l : List LCall} {k : Nat} (hk : k < l.length) (hcode : D.code = exprL l) (ho : l[k].op = 29) : OpGood D x l k l[k] :=
  good_of hk 100 29 ho (by decide) (by decide) (by decide) (by decide) oplut_29 (fun a b w => by kernel_rfl) fun cb w s hcx hloc hleft hbad hlen hdl => by
    have e : doS x l[k] s = twoS 29 (popS (popS s).2).1 (popS s).1 (popS (popS s).2).2 := by simp [doS, hloc, ho, operateS]
    rw [e] at hdl ⊢
    rcases two_cases s with ⟨hs, hb⟩ | ⟨ks, a, b, hs, h1, h2⟩
    · exact .inl ⟨twoS_bad _ _ _ hb, obin_err 29 D cb w s.stack s.pieces _ hcx hs⟩
    · rw [h1, h2] at hdl ⊢
      rw [hs] at hcx
      have hlk : ks.length ≤ 4000 := by rw [hs] at hlen; simp at hlen; omega
      rw [← atc0 hk (by rw [ho]; rfl)]
      by_cases hb : b = 0
      · subst hb
        exact .inl ⟨rfl, obin_29z D cb w ks a s.pieces _ hcx⟩
      · by_cases hn : a < 0 ∨ b < 0
        · exact absurd hdl (by simp [twoS, hb, hn, LSt.mkLeft])
        · refine .inr ?_
          simp only [twoS, hb, hn, if_false]
          exact ⟨hloc, hbad, obin_29 D cb w ks a b s.pieces _ hcx (by omega) hb (by omega) (by omega)⟩
theorem good_36 {D : CxD} {x : LWorld} {l : List LCall} {k : Nat} (hk : k < l.length) (hcode : D.code = exprL l) (ho : l[k].op = 36) : OpGood D x l k l[k] :=
  good_of hk 100 36 ho (by decide) (by decide) (by decide) (by decide) oplut_36 (fun a b w => by kernel_rfl) fun cb w s hcx hloc hleft hbad hlen hdl => by
    have e : doS x l[k] s = twoS 36 (popS (popS s).2).1 (popS s).1 (popS (popS s).2).2 := by simp [doS, hloc, ho, operateS]
    rw [e] at hdl ⊢
    rcases two_cases s with ⟨hs, hb⟩ | ⟨ks, a, b, hs, h1, h2⟩
    · exact .inl ⟨twoS_bad _ _ _ hb, obin_err 36 D cb w s.stack s.pieces _ hcx hs⟩
    · rw [h1, h2] at hdl ⊢
      rw [hs] at hcx
      have hlk : ks.length ≤ 4000 := by rw [hs] at hlen; simp at hlen; omega
      rw [← atc0 hk (by rw [ho]; rfl)]
      by_cases hn : b < 0 ∨ 63 < b
      · exact absurd hdl (by simp [twoS, shiftS, hn, LSt.mkLeft])
      · obtain ⟨j, rfl⟩ : ∃ j : Nat, b = (j : Int) := ⟨b.toNat, by omega⟩
        refine .inr ?_
        simp only [twoS, shiftS, hn, if_false]
        exact ⟨hloc, hbad, obin_36 D cb w ks a s.pieces _ j hcx (by omega) (by omega)⟩
theorem good_37 {D : CxD} {x : LWorld} {l : List LCall} {k : Nat} (hk : k < l.length) (hcode : D.code = exprL l) (ho : l[k].op = 37) : OpGood D x l k l[k] :=
  good_of hk 100 37 ho (by decide) (by decide) (by decide) (by decide) oplut_37 (fun a b w => by kernel_rfl) fun cb w s hcx hloc hleft hbad hlen hdl => by
    have e : doS x l[k] s = twoS 37 (popS (popS s).2).1 (popS s).1 (popS (popS s).2).2 := by simp [doS, hloc, ho, operateS]
    rw [e] at hdl ⊢
    rcases two_cases s with ⟨hs, hb⟩ | ⟨ks, a, b, hs, h1, h2⟩
    · exact .inl ⟨twoS_bad _ _ _ hb, obin_err 37 D cb w s.stack s.pieces _ hcx hs⟩
    · rw [h1, h2] at hdl ⊢
      rw [hs] at hcx
      have hlk : ks.length ≤ 4000 := by rw [hs] at hlen; simp at hlen; omega
      rw [← atc0 hk (by rw [ho]; rfl)]
      by_cases hn : b < 0 ∨ 63 < b
      · exact absurd hdl (by simp [twoS, shiftS, hn, LSt.mkLeft])
      · obtain ⟨j, rfl⟩ : ∃ j : Nat, b = (j : Int) := ⟨b.toNat, by omega⟩
        refine .inr ?_
        simp only [twoS, shiftS, hn, if_false]
        exact ⟨hloc, hbad, obin_37 D cb w ks a s.pieces _ j hcx (by omega) (by omega)⟩
theorem good_38 {D : CxD} {x : LWorld} {l : List LCall} {k : Nat} (hk : k < l.length) (hcode : D.code = exprL l) (ho : l[k].op = 38) : OpGood D x l k l[k] :=
  good_of hk 100 38 ho (by decide) (by decide) (by decide) (by decide) oplut_38 (fun a b w => by kernel_rfl) fun cb w s hcx hloc hleft hbad hlen hdl => by
    have e : doS x l[k] s = twoS 38 (popS (popS s).2).1 (popS s).1 (popS (popS s).2).2 := by simp [doS, hloc, ho, operateS]
    rw [e] at hdl ⊢
    rcases two_cases s with ⟨hs, hb⟩ | ⟨ks, a, b, hs, h1, h2⟩
    · exact .inl ⟨twoS_bad _ _ _ hb, obin_err 38 D cb w s.stack s.pieces _ hcx hs⟩
    · rw [h1, h2] at hdl ⊢
      rw [hs] at hcx
      have hlk : ks.length ≤ 4000 := by rw [hs] at hlen; simp at hlen; omega
      rw [← atc0 hk (by rw [ho]; rfl)]
      by_cases hn : b < 0 ∨ 63 < b
      · exact absurd hdl (by simp [twoS, shiftS, hn, LSt.mkLeft])
      · obtain ⟨j, rfl⟩ : ∃ j : Nat, b = (j : Int) := ⟨b.toNat, by omega⟩
        refine .inr ?_
        simp only [twoS, shiftS, hn, if_false]
        exact ⟨hloc, hbad, obin_38 D cb w ks a s.pieces _ j hcx (by omega) (by omega)⟩
end Go.Proofs.Ytahohmdfllgedaa

namespace Go.Proofs.Ytahohmdfllgedaa
open Go.RowKit

theorem i64_0 : i64 0 := by unfold i64; omega
theorem i64_15 : i64 15 := by unfold i64; omega
theorem i64_17 : i64 17 := by unfold i64; omega
theorem rsl2 {w : World} {g : Nat} {t : TypeId} {fz : Nat × Nat} {o1 a1 o2 a2 : Int} (h : w.heap[g]? = some (.cells #[vi o1, vi a1, vi 0, .slice none 0 0, vi o2, vi a2, vi 0, .slice none 0 0] t fz)) (b1 : i64 o1) (b2 : i64 a1) (b3 : i64 o2) (b4 : i64 a2) :
    RSl 4 (RCall w) w (.slice (some ⟨g, 0, none⟩) 2 2) [⟨o1, a1, 0, []⟩, ⟨o2, a2, 0, []⟩] := by
  refine .inr ⟨⟨g, 0, none⟩, 2, rfl, by simp, by decide, fun i hi => ?_⟩
  have hc : ∀ j, w.cell? ⟨g, j, none⟩ = _ := blk_cell h
  match i, hi with
  | 0, _ =>
    refine ⟨[vi o1, vi a1, vi 0, .slice none 0 0], rfl, ⟨_, rfl, .inl ⟨rfl, rfl⟩, b1, b2, i64_0⟩, fun j u hj => ?_⟩
    match j, hj with
    | 0, hj => simp at hj; subst hj; exact hc 0
    | 1, hj => simp at hj; subst hj; exact hc 1
    | 2, hj => simp at hj; subst hj; exact hc 2
    | 3, hj => simp at hj; subst hj; exact hc 3
  | 1, _ =>
    refine ⟨[vi o2, vi a2, vi 0, .slice none 0 0], rfl, ⟨_, rfl, .inl ⟨rfl, rfl⟩, b3, b4, i64_0⟩, fun j u hj => ?_⟩
    match j, hj with
    | 0, hj => simp at hj; subst hj; exact hc 4
    | 1, hj => simp at hj; subst hj; exact hc 5
    | 2, hj => simp at hj; subst hj; exact hc 6
    | 3, hj => simp at hj; subst hj; exact hc 7
theorem rsl3 {w : World} {g : Nat} {t : TypeId} {fz : Nat × Nat} {o1 a1 o2 a2 o3 : Int} (h : w.heap[g]? = some (.cells #[vi o1, vi a1, vi 0, .slice none 0 0, vi o2, vi a2, vi 0, .slice none 0 0, vi o3, vi 0, vi 0, .slice none 0 0] t fz)) (b1 : i64 o1) (b2 : i64 a1) (b3 : i64 o2) (b4 : i64 a2) (b5 : i64 o3) :
    RSl 4 (RCall w) w (.slice (some ⟨g, 0, none⟩) 3 3) [⟨o1, a1, 0, []⟩, ⟨o2, a2, 0, []⟩, ⟨o3, 0, 0, []⟩] := by
  refine .inr ⟨⟨g, 0, none⟩, 3, rfl, by simp, by decide, fun i hi => ?_⟩
  have hc : ∀ j, w.cell? ⟨g, j, none⟩ = _ := blk_cell h
  match i, hi with
  | 0, _ =>
    refine ⟨[vi o1, vi a1, vi 0, .slice none 0 0], rfl, ⟨_, rfl, .inl ⟨rfl, rfl⟩, b1, b2, i64_0⟩, fun j u hj => ?_⟩
    match j, hj with
    | 0, hj => simp at hj; subst hj; exact hc 0
    | 1, hj => simp at hj; subst hj; exact hc 1
    | 2, hj => simp at hj; subst hj; exact hc 2
    | 3, hj => simp at hj; subst hj; exact hc 3
  | 1, _ =>
    refine ⟨[vi o2, vi a2, vi 0, .slice none 0 0], rfl, ⟨_, rfl, .inl ⟨rfl, rfl⟩, b3, b4, i64_0⟩, fun j u hj => ?_⟩
    match j, hj with
    | 0, hj => simp at hj; subst hj; exact hc 4
    | 1, hj => simp at hj; subst hj; exact hc 5
    | 2, hj => simp at hj; subst hj; exact hc 6
    | 3, hj => simp at hj; subst hj; exact hc 7
  | 2, _ =>
    refine ⟨[vi o3, vi 0, vi 0, .slice none 0 0], rfl, ⟨_, rfl, .inl ⟨rfl, rfl⟩, b5, i64_0, i64_0⟩, fun j u hj => ?_⟩
    match j, hj with
    | 0, hj => simp at hj; subst hj; exact hc 8
    | 1, hj => simp at hj; subst hj; exact hc 9
    | 2, hj => simp at hj; subst hj; exact hc 10
    | 3, hj => simp at hj; subst hj; exact hc 11
def lw0 : LWorld := ⟨[], 0, 0, 0, []⟩
theorem rw0 (w : World) : RWorld w (.slice none 0 0) (.slice none 0 0) lw0 := ⟨.inl ⟨rfl, rfl⟩, by simp [lw0], .inl ⟨rfl, rfl⟩, i64_0, i64_0, by decide⟩

theorem good_const {D : CxD} {x : LWorld} {n op : Int} (hc : D.code = exprL [⟨15, n, 0, []⟩, ⟨op, 0, 0, []⟩]) (hn : i64 n) (ho : op = 25 ∨ op = 31 ∨ op = 32 ∨ op = 150) :
    ∀ k (h : k < [(⟨15, n, 0, []⟩ : LCall), ⟨op, 0, 0, []⟩].length), OpGood D x [⟨15, n, 0, []⟩, ⟨op, 0, 0, []⟩] k [(⟨15, n, 0, []⟩ : LCall), ⟨op, 0, 0, []⟩][k] := by
  intro k h
  match k, h with
  | 0, h => exact good_15 h hc rfl hn
  | 1, h =>
    rcases ho with rfl | rfl | rfl | rfl
    · exact good_25 h hc rfl
    · exact good_31 h hc rfl
    · exact good_32 h hc rfl
    · exact .inl rfl
theorem good_operator {D : CxD} {x : LWorld} {a b op : Int} (hc : D.code = exprL [⟨17, a, 0, []⟩, ⟨17, b, 0, []⟩, ⟨op, 0, 0, []⟩]) (ha : i64 a) (hb : i64 b)
    (ho : (26 ≤ op ∧ op ≤ 46) ∧ op ≠ 40 ∧ op ≠ 35) :
    ∀ k (h : k < [(⟨17, a, 0, []⟩ : LCall), ⟨17, b, 0, []⟩, ⟨op, 0, 0, []⟩].length), OpGood D x [⟨17, a, 0, []⟩, ⟨17, b, 0, []⟩, ⟨op, 0, 0, []⟩] k [(⟨17, a, 0, []⟩ : LCall), ⟨17, b, 0, []⟩, ⟨op, 0, 0, []⟩][k] := by
  intro k h
  match k, h with
  | 0, h => exact good_17 h hc rfl ha
  | 1, h => exact good_17 h hc rfl hb
  | 2, h =>
    have h8 : op = 26 ∨ op = 27 ∨ op = 28 ∨ op = 29 ∨ op = 30 ∨ op = 31 ∨ op = 32 ∨ op = 33 ∨ op = 34 ∨ op = 36 ∨ op = 37 ∨ op = 38 ∨ op = 39 ∨ op = 41 ∨ op = 42 ∨ op = 43 ∨ op = 44 ∨ op = 45 ∨ op = 46 := by omega
    rcases h8 with rfl | rfl | rfl | rfl | rfl | rfl | rfl | rfl | rfl | rfl | rfl | rfl | rfl | rfl | rfl | rfl | rfl | rfl | rfl
    · exact good_26 h hc rfl
    · exact good_27 h hc rfl
    · exact good_28 h hc rfl
    · exact good_29 h hc rfl
    · exact good_30 h hc rfl
    · exact good_31 h hc rfl
    · exact good_32 h hc rfl
    · exact good_33 h hc rfl
    · exact good_34 h hc rfl
    · exact good_36 h hc rfl
    · exact good_37 h hc rfl
    · exact good_38 h hc rfl
    · exact good_39 h hc rfl
    · exact good_41 h hc rfl
    · exact good_42 h hc rfl
    · exact good_43 h hc rfl
    · exact good_44 h hc rfl
    · exact good_45 h hc rfl
    · exact good_46 h hc rfl

set_option maxRecDepth 100000 in
set_option maxHeartbeats 8000000 in
theorem FnConstants_walk (n op : Int) (w : World) (hn : i64 n) (hop : i64 op) :
    Calls Try.prog 6 #[vi n, vi op] w fun e w' => e = .returned (.bool true) ∧ Fr [] w w' := by
  by_cases ho : op = 25 ∨ op = 31 ∨ op = 32 ∨ op = 150
  · have h1 : ∀ w', Fr [] w w' → Calls Try.prog 7 #[.slice (some ⟨w.heap.size, 0, none⟩) 2 2, .agg #[.slice none 0 0, vi 0, vi 0, .int .u64 0, .slice none 0 0]] (w.alloc (.cells #[vi 15, vi n, vi 0, .slice none 0 0, vi op, vi 0, vi 0, .slice none 0 0] 48)) fun e w' => e = .returned (.bool true) ∧ Fr [] (w.alloc (.cells #[vi 15, vi n, vi 0, .slice none 0 0, vi op, vi 0, vi 0, .slice none 0 0] 48)) w' := fun _ _ =>
      FnEvaluate_walk _ _ _ _ lw0 _ (rsl2 (blk_new w _) i64_15 hn hop i64_0) (rw0 _) (fun _ D _ hc _ _ => good_const hc hn ho)
    have H1 := Lib.hid (h1 w (Fr.refl _ _))
    clear h1
    rcases ho with rfl | rfl | rfl | rfl
    all_goals
      go_enter Try.func6, Try.ntmps6
      go_wp2_with (go_at_call 7; go_must (refine H1.out.mono ?_); rintro e w2 ⟨rfl, hf2⟩; have F2 := Lib.hid hf2; clear hf2)
      go_ret
      exact ⟨rfl, ((Fr.refl _ _).alloc _).then F2.out⟩
  · have q1 : (op == 25) = false := by simp; omega
    have q2 : (op == 31) = false := by simp; omega
    have q3 : (op == 32) = false := by simp; omega
    have q4 : (op == 150) = false := by simp; omega
    have p1 : (op != 25) = true := by simp; omega
    have p2 : (op != 31) = true := by simp; omega
    have p3 : (op != 32) = true := by simp; omega
    have p4 : (op != 150) = true := by simp; omega
    clear ho
    go_enter Try.func6, Try.ntmps6
    go_wp2_with (go_at_call 11; go_must (refine (works_any _).mono ?_); rintro e w2 ⟨rfl, hf2⟩; have F2 := Lib.hid hf2; clear hf2)
    go_ret
    exact ⟨rfl, ((Fr.refl _ _).alloc _).then F2.out⟩

set_option maxRecDepth 100000 in
set_option maxHeartbeats 8000000 in
theorem FnOperator_walk (a b op : Int) (w : World) (ha : i64 a) (hb : i64 b) (hop : i64 op) :
    Calls Try.prog 9 #[vi a, vi b, vi op] w fun e w' => e = .returned (.bool true) ∧ Fr [] w w' := by
  by_cases ho : (26 ≤ op ∧ op ≤ 46) ∧ op ≠ 40 ∧ op ≠ 35
  · have H1 : Hid (Calls Try.prog 7 #[.slice (some ⟨w.heap.size, 0, none⟩) 3 3, .agg #[.slice none 0 0, vi 0, vi 0, .int .u64 0, .slice none 0 0]] (w.alloc (.cells #[vi 17, vi a, vi 0, .slice none 0 0, vi 17, vi b, vi 0, .slice none 0 0, vi op, vi 0, vi 0, .slice none 0 0] 48)) fun e w' => e = .returned (.bool true) ∧ Fr [] (w.alloc (.cells #[vi 17, vi a, vi 0, .slice none 0 0, vi 17, vi b, vi 0, .slice none 0 0, vi op, vi 0, vi 0, .slice none 0 0] 48)) w') :=
      FnEvaluate_walk _ _ _ _ lw0 _ (rsl3 (blk_new w _) i64_17 ha i64_17 hb hop) (rw0 _) (fun _ D _ hc _ _ => good_operator hc ha hb ho)
    have q1 : ¬ op < 26 := by omega
    have q2 : ¬ 46 < op := by omega
    have q3 : (op == 40) = false := by simp; omega
    have q4 : (op == 35) = false := by simp; omega
    have q5 : decide (op < 26) = false := by simpa using q1
    have q6 : decide (46 < op) = false := by simpa using q2
    clear ho
    go_enter Try.func9, Try.ntmps9
    go_wp2_with (go_at_call 7; go_must (refine H1.out.mono ?_); rintro e w2 ⟨rfl, hf2⟩; have F2 := Lib.hid hf2; clear hf2)
    go_ret
    exact ⟨rfl, ((Fr.refl _ _).alloc _).then F2.out⟩
  · by_cases h1 : op < 26
    · have q5 : decide (op < 26) = true := by simpa using h1
      clear ho
      go_enter Try.func9, Try.ntmps9
      go_wp2_with (go_at_call 11; go_must (refine (works_any _).mono ?_); rintro e w2 ⟨rfl, hf2⟩; have F2 := Lib.hid hf2; clear hf2)
      go_ret
      exact ⟨rfl, F2.out⟩
    have q5 : decide (op < 26) = false := by simpa using h1
    by_cases h2 : 46 < op
    · have q6 : decide (46 < op) = true := by simpa using h2
      clear ho
      go_enter Try.func9, Try.ntmps9
      go_wp2_with (go_at_call 11; go_must (refine (works_any _).mono ?_); rintro e w2 ⟨rfl, hf2⟩; have F2 := Lib.hid hf2; clear hf2)
      go_ret
      exact ⟨rfl, F2.out⟩
    have q6 : decide (46 < op) = false := by simpa using h2
    have h3 : op = 40 ∨ op = 35 := by omega
    clear ho h1 h2 q5 q6
    rcases h3 with rfl | rfl
    all_goals
      go_enter Try.func9, Try.ntmps9
      go_wp2_with (go_at_call 11; go_must (refine (works_any _).mono ?_); rintro e w2 ⟨rfl, hf2⟩; have F2 := Lib.hid hf2; clear hf2)
      go_ret
      exact ⟨rfl, F2.out⟩
end Go.Proofs.Ytahohmdfllgedaa

namespace Go.Proofs.Ytahohmdfllgedaa
open Go.ChangeShapes Go.WideShapes Go.ChangeAt Go.RowKit

theorem own_knob : ownKnob Try.prog.godebug = none := by kernel_rfl
theorem laid_out : laidOutB Try.prog = true := by kernel_rfl

theorem wf_bounds_u8 {n : Int} (h : (Lit.int .u8 n).wf = true) : 0 ≤ n ∧ n < 256 := by
  have h0 : IntKind.u8.min = 0 := rfl
  have h1 : IntKind.u8.max = 255 := rfl
  simp only [Lit.wf, Bool.and_eq_true, decide_eq_true_eq] at h; omega
theorem wf_bounds_u64 {n : Int} (h : (Lit.int .u64 n).wf = true) : 0 ≤ n ∧ n < 18446744073709551616 := by
  have h0 : IntKind.u64.min = 0 := rfl
  have h1 : IntKind.u64.max = 18446744073709551615 := rfl
  simp only [Lit.wf, Bool.and_eq_true, decide_eq_true_eq] at h; omega
theorem wf_bounds_i64 {n : Int} (h : (Lit.int .i64 n).wf = true) : -9223372036854775808 ≤ n ∧ n ≤ 9223372036854775807 := by
  have h0 : IntKind.i64.min = -9223372036854775808 := rfl
  have h1 : IntKind.i64.max = 9223372036854775807 := rfl
  simp only [Lit.wf, Bool.and_eq_true, decide_eq_true_eq] at h; omega

/-- An argument of type []byte. -/
theorem arg_bytes {H : Type} {enc : TypeId × Value → H} {W : World} {base : Nat} {spare : Nat → Bool} {held : Bool} {fuel : Nat} {a : Option Addr} {len cap : Nat} {x : DataW H × List MemPlace}
    (hf : DataW.trod enc Try.prog W base spare held fuel 23 [.slice a len cap] = some x) : ∃ l : List UInt8, l.length = len ∧ Sl W (.slice a len cap) (vbs l) := by
  rcases open_ints Try.underlying23 Try.underlying5 (by kernel_rfl) hf with ⟨hcs, _⟩ | ⟨x, n, c, zs, hcs, _, hl, hm, hz, _, hcell, hwz⟩
  · simp at hcs
    obtain ⟨rfl, rfl, rfl⟩ := hcs
    exact ⟨[], rfl, .inl ⟨rfl, rfl⟩⟩
  · simp at hcs
    obtain ⟨rfl, rfl, rfl⟩ := hcs
    have hlen : len ≤ zs.length := by rw [hz]; split <;> omega
    have e : (zs.take len).length = len := by rw [List.length_take]; omega
    refine ⟨(zs.take len).map (fun n => UInt8.ofNat n.toNat), by simp [Nat.min_eq_left hlen], .inr ⟨x, cap, by simp [Nat.min_eq_left hlen], by simp [Nat.min_eq_left hlen, hl], hm, fun i u hi => ?_⟩⟩
    have hil : i < len := by
      have := (List.getElem?_eq_some_iff.1 hi).1
      simp at this; omega
    rw [hcell i (by omega)]
    have hw := wf_bounds_u8 (hwz (zs[i]'(by omega)) (List.getElem_mem _))
    simp [hil, show i < zs.length by omega] at hi
    rw [← hi]
    simp only [List.getD, List.getElem?_eq_getElem (show i < zs.length by omega), Option.getD_some]
    congr 2
    have : (UInt8.ofNat zs[i].toNat).toNat = zs[i].toNat := by simp [Nat.mod_eq_of_lt (show zs[i].toNat < 256 by omega)]
    rw [this]; omega

end Go.Proofs.Ytahohmdfllgedaa
