/- laws.rule: two rules that agree. Printed by gen_glr.py.
laws.FnRules: whatever the input, it returns true. Printed by gen_gfg.py. -/
import Derived.Test.YtahohmdfllgedaaGreatFa1
import Derived.Test.YtahohmdfllgedaaGreatFa7
import Derived.Test.YtahohmdfllgedaaGreatFa19
set_option linter.unusedVariables false
set_option linter.unusedSimpArgs false
namespace Go.Proofs.YtahohmdfllgedaaGreat
open Go.RowKit

/-- Two rules agree, as laws.rule says. -/
def RAgree (a b : LRule) : Prop := a.kind = b.kind ∧ (a.kind = 2 ∨ a.kind = 3 ∨ a.kind = 7 → a.n = b.n) ∧ (a.kind = 4 ∨ a.kind = 7 → a.reg = b.reg) ∧ (a.kind = 5 ∨ a.kind = 6 → a.expr = b.expr)

set_option maxRecDepth 100000 in
set_option maxHeartbeats 4000000 in
theorem lrule_2 (ra na rb : Int) (va vb : Value) (la lb : List UInt8) (w : World) (h1 : Sl w va (vbs la)) (h2 : Sl w vb (vbs lb)) :
    Calls Tryz.prog 12 #[.agg #[.int .i64 2, .int .i64 ra, .int .i64 na, va], .agg #[.int .i64 2, .int .i64 rb, .int .i64 na, vb]] w fun e w' => e = .returned (.bool true) ∧ Fr [] w w' := by
  obtain ⟨aa, ac, rfl⟩ := sl_form h1
  obtain ⟨ba, bc, rfl⟩ := sl_form h2
  obtain ⟨al, hal⟩ : ∃ al, la.length = al := ⟨_, rfl⟩
  obtain ⟨bl, hbl⟩ : ∃ bl, lb.length = bl := ⟨_, rfl⟩
  rw [hal] at h1
  rw [hbl] at h2
  rw [hal, hbl]
  have H1 := Lib.hid h1
  have H2 := Lib.hid h2
  clear h1 h2 hal hbl
  go_enter Tryz.func12, Tryz.ntmps12
  go_wp2_with fail
  go_ret
  exact ⟨by simp, ((Fr.refl _ _).alloc _).alloc _⟩

set_option maxRecDepth 100000 in
set_option maxHeartbeats 4000000 in
theorem lrule_3 (ra na rb : Int) (va vb : Value) (la lb : List UInt8) (w : World) (h1 : Sl w va (vbs la)) (h2 : Sl w vb (vbs lb)) :
    Calls Tryz.prog 12 #[.agg #[.int .i64 3, .int .i64 ra, .int .i64 na, va], .agg #[.int .i64 3, .int .i64 rb, .int .i64 na, vb]] w fun e w' => e = .returned (.bool true) ∧ Fr [] w w' := by
  obtain ⟨aa, ac, rfl⟩ := sl_form h1
  obtain ⟨ba, bc, rfl⟩ := sl_form h2
  obtain ⟨al, hal⟩ : ∃ al, la.length = al := ⟨_, rfl⟩
  obtain ⟨bl, hbl⟩ : ∃ bl, lb.length = bl := ⟨_, rfl⟩
  rw [hal] at h1
  rw [hbl] at h2
  rw [hal, hbl]
  have H1 := Lib.hid h1
  have H2 := Lib.hid h2
  clear h1 h2 hal hbl
  go_enter Tryz.func12, Tryz.ntmps12
  go_wp2_with fail
  go_ret
  exact ⟨by simp, ((Fr.refl _ _).alloc _).alloc _⟩

set_option maxRecDepth 100000 in
set_option maxHeartbeats 4000000 in
theorem lrule_4 (ra na nb : Int) (va vb : Value) (la lb : List UInt8) (w : World) (h1 : Sl w va (vbs la)) (h2 : Sl w vb (vbs lb)) :
    Calls Tryz.prog 12 #[.agg #[.int .i64 4, .int .i64 ra, .int .i64 na, va], .agg #[.int .i64 4, .int .i64 ra, .int .i64 nb, vb]] w fun e w' => e = .returned (.bool true) ∧ Fr [] w w' := by
  obtain ⟨aa, ac, rfl⟩ := sl_form h1
  obtain ⟨ba, bc, rfl⟩ := sl_form h2
  obtain ⟨al, hal⟩ : ∃ al, la.length = al := ⟨_, rfl⟩
  obtain ⟨bl, hbl⟩ : ∃ bl, lb.length = bl := ⟨_, rfl⟩
  rw [hal] at h1
  rw [hbl] at h2
  rw [hal, hbl]
  have H1 := Lib.hid h1
  have H2 := Lib.hid h2
  clear h1 h2 hal hbl
  go_enter Tryz.func12, Tryz.ntmps12
  go_wp2_with fail
  go_ret
  exact ⟨by simp, ((Fr.refl _ _).alloc _).alloc _⟩

set_option maxRecDepth 100000 in
set_option maxHeartbeats 4000000 in
theorem lrule_7 (ra na : Int) (va vb : Value) (la lb : List UInt8) (w : World) (h1 : Sl w va (vbs la)) (h2 : Sl w vb (vbs lb)) :
    Calls Tryz.prog 12 #[.agg #[.int .i64 7, .int .i64 ra, .int .i64 na, va], .agg #[.int .i64 7, .int .i64 ra, .int .i64 na, vb]] w fun e w' => e = .returned (.bool true) ∧ Fr [] w w' := by
  obtain ⟨aa, ac, rfl⟩ := sl_form h1
  obtain ⟨ba, bc, rfl⟩ := sl_form h2
  obtain ⟨al, hal⟩ : ∃ al, la.length = al := ⟨_, rfl⟩
  obtain ⟨bl, hbl⟩ : ∃ bl, lb.length = bl := ⟨_, rfl⟩
  rw [hal] at h1
  rw [hbl] at h2
  rw [hal, hbl]
  have H1 := Lib.hid h1
  have H2 := Lib.hid h2
  clear h1 h2 hal hbl
  go_enter Tryz.func12, Tryz.ntmps12
  go_wp2_with fail
  go_ret
  exact ⟨by simp, ((Fr.refl _ _).alloc _).alloc _⟩

set_option maxRecDepth 100000 in
set_option maxHeartbeats 4000000 in
theorem lrule_5 (ra na rb nb : Int) (va vb : Value) (la : List UInt8) (w : World) (h1 : Sl w va (vbs la)) (h2 : Sl w vb (vbs la)) :
    Calls Tryz.prog 12 #[.agg #[.int .i64 5, .int .i64 ra, .int .i64 na, va], .agg #[.int .i64 5, .int .i64 rb, .int .i64 nb, vb]] w fun e w' => e = .returned (.bool true) ∧ Fr [] w w' := by
  obtain ⟨aa, ac, rfl⟩ := sl_form h1
  obtain ⟨ba, bc, rfl⟩ := sl_form h2
  obtain ⟨al, hal⟩ : ∃ al, la.length = al := ⟨_, rfl⟩
  rw [hal] at h1
  rw [hal] at h2
  rw [hal]
  have H1 := Lib.hid h1
  have H2 := Lib.hid h2
  clear h1 h2 hal
  go_enter Tryz.func12, Tryz.ntmps12
  go_wp2_with (go_at_call 32; go_must (refine (bEqual_any _ _ la la _ (H1.out.fr (bs := []) (((Fr.refl _ _).alloc _).alloc _) (by simp)) (H2.out.fr (bs := []) (((Fr.refl _ _).alloc _).alloc _) (by simp))).mono ?_); rintro e w2 ⟨rfl, rfl⟩)
  go_ret
  exact ⟨by simp, ((Fr.refl _ _).alloc _).alloc _⟩

set_option maxRecDepth 100000 in
set_option maxHeartbeats 4000000 in
theorem lrule_6 (ra na rb nb : Int) (va vb : Value) (la : List UInt8) (w : World) (h1 : Sl w va (vbs la)) (h2 : Sl w vb (vbs la)) :
    Calls Tryz.prog 12 #[.agg #[.int .i64 6, .int .i64 ra, .int .i64 na, va], .agg #[.int .i64 6, .int .i64 rb, .int .i64 nb, vb]] w fun e w' => e = .returned (.bool true) ∧ Fr [] w w' := by
  obtain ⟨aa, ac, rfl⟩ := sl_form h1
  obtain ⟨ba, bc, rfl⟩ := sl_form h2
  obtain ⟨al, hal⟩ : ∃ al, la.length = al := ⟨_, rfl⟩
  rw [hal] at h1
  rw [hal] at h2
  rw [hal]
  have H1 := Lib.hid h1
  have H2 := Lib.hid h2
  clear h1 h2 hal
  go_enter Tryz.func12, Tryz.ntmps12
  go_wp2_with (go_at_call 32; go_must (refine (bEqual_any _ _ la la _ (H1.out.fr (bs := []) (((Fr.refl _ _).alloc _).alloc _) (by simp)) (H2.out.fr (bs := []) (((Fr.refl _ _).alloc _).alloc _) (by simp))).mono ?_); rintro e w2 ⟨rfl, rfl⟩)
  go_ret
  exact ⟨by simp, ((Fr.refl _ _).alloc _).alloc _⟩

set_option maxRecDepth 100000 in
set_option maxHeartbeats 4000000 in
theorem lrule_0 (k ra na rb nb : Int) (va vb : Value) (la lb : List UInt8) (w : World) (h1 : Sl w va (vbs la)) (h2 : Sl w vb (vbs lb)) (hk : ¬ k = 2 ∧ ¬ k = 3 ∧ ¬ k = 4 ∧ ¬ k = 7 ∧ ¬ k = 5 ∧ ¬ k = 6) :
    Calls Tryz.prog 12 #[.agg #[.int .i64 k, .int .i64 ra, .int .i64 na, va], .agg #[.int .i64 k, .int .i64 rb, .int .i64 nb, vb]] w fun e w' => e = .returned (.bool true) ∧ Fr [] w w' := by
  obtain ⟨aa, ac, rfl⟩ := sl_form h1
  obtain ⟨ba, bc, rfl⟩ := sl_form h2
  obtain ⟨al, hal⟩ : ∃ al, la.length = al := ⟨_, rfl⟩
  obtain ⟨bl, hbl⟩ : ∃ bl, lb.length = bl := ⟨_, rfl⟩
  rw [hal] at h1
  rw [hbl] at h2
  rw [hal, hbl]
  have H1 := Lib.hid h1
  have H2 := Lib.hid h2
  clear h1 h2 hal hbl
  obtain ⟨k2, k3, k4, k7, k5, k6⟩ := hk
  have q2 : (k == 2) = false := beq_eq_false_iff_ne.2 k2
  have q3 : (k == 3) = false := beq_eq_false_iff_ne.2 k3
  have q4 : (k == 4) = false := beq_eq_false_iff_ne.2 k4
  have q5 : (k == 5) = false := beq_eq_false_iff_ne.2 k5
  have q6 : (k == 6) = false := beq_eq_false_iff_ne.2 k6
  have q7 : (k == 7) = false := beq_eq_false_iff_ne.2 k7
  clear k2 k3 k4 k5 k6 k7
  go_enter Tryz.func12, Tryz.ntmps12
  go_wp2_with fail
  go_ret
  exact ⟨by simp, ((Fr.refl _ _).alloc _).alloc _⟩

theorem lrule_any (a b : LRule) (va vb : Value) (w : World) (h : RAgree a b) (h1 : Sl w va (vbs a.expr)) (h2 : Sl w vb (vbs b.expr)) :
    Calls Tryz.prog 12 #[.agg #[.int .i64 a.kind, .int .i64 a.reg, .int .i64 a.n, va], .agg #[.int .i64 b.kind, .int .i64 b.reg, .int .i64 b.n, vb]] w fun e w' => e = .returned (.bool true) ∧ Fr [] w w' := by
  obtain ⟨k, r, n, l⟩ := a
  obtain ⟨k', r', n', l'⟩ := b
  obtain ⟨hk, hn, hr, hl⟩ := h
  simp only at hk hn hr hl h1 h2 ⊢
  subst hk
  by_cases e2 : k = 2
  · subst e2; obtain rfl := hn (by simp); exact lrule_2 _ _ _ _ _ _ _ w h1 h2
  by_cases e3 : k = 3
  · subst e3; obtain rfl := hn (by simp); exact lrule_3 _ _ _ _ _ _ _ w h1 h2
  by_cases e4 : k = 4
  · subst e4; obtain rfl := hr (by simp); exact lrule_4 _ _ _ _ _ _ _ w h1 h2
  by_cases e7 : k = 7
  · subst e7; obtain rfl := hr (by simp); obtain rfl := hn (by simp); exact lrule_7 _ _ _ _ _ _ w h1 h2
  by_cases e5 : k = 5
  · subst e5; obtain rfl := hl (by simp); exact lrule_5 _ _ _ _ _ _ _ w h1 h2
  by_cases e6 : k = 6
  · subst e6; obtain rfl := hl (by simp); exact lrule_6 _ _ _ _ _ _ _ w h1 h2
  exact lrule_0 k _ _ _ _ _ _ _ _ w h1 h2 ⟨e2, e3, e4, e7, e5, e6⟩
end Go.Proofs.YtahohmdfllgedaaGreat

namespace Go.Proofs.YtahohmdfllgedaaGreat
open Go.RowKit Go.MapKept

theorem cfa_agree {a b : LRule} (h : CfaR a b) (hk : ¬ a.kind = 0) : RAgree ⟨kindI b.kind, b.reg, b.n, b.expr⟩ a := by
  rcases h with h | ⟨h1, h2, h3, h4⟩ | ⟨h1, h2, h3⟩
  · exact absurd h hk
  · simp [RAgree, kindI, h1, h2, h3, h4]
  · simp [RAgree, kindI, h1, h2, h3]
theorem rule_agree {r : LRule} (h : 0 ≤ r.kind ∧ r.kind ≤ 6) : RAgree ⟨kindI r.kind, r.reg, r.n, r.expr⟩ r := by
  have e : kindI r.kind = r.kind := by unfold kindI; rw [if_neg (by omega), if_neg (by omega)]
  simp [RAgree, e]
/-- What the guards say of a register's rule. -/
def KOk (t : LTab) : Prop := ∀ k r, t.rules k = some r → 0 ≤ r.kind ∧ r.kind ≤ 6
def KSt (s : LSta) : Prop := KOk s.1 ∧ ∀ t ∈ s.2, KOk t
theorem KOk.put {t : LTab} (h : KOk t) {k : Int} {r : LRule} (hr : 0 ≤ r.kind ∧ r.kind ≤ 6) : KOk (t.put k r) := by
  intro j q hq
  simp only [LTab.put, lput] at hq
  split at hq
  · obtain rfl := Option.some.inj hq; exact hr
  · exact h j q hq
theorem sCall_kind {off : Int} {x : LCall} {s s' : LSta} (h : KSt s) (e : sCall off x s = some s') : KSt s' := by
  have hput : ∀ {k : Int} {r : LRule} {q : LSta}, some ((s.1.put k r, s.2) : LSta) = some q → 0 ≤ r.kind ∧ r.kind ≤ 6 → KSt q := fun e h1 => by
    obtain rfl := Option.some.inj e; exact ⟨h.1.put h1, h.2⟩
  have hcfa : ∀ {r : LRule} {q : LSta}, some ((s.1.setCfa r, s.2) : LSta) = some q → KSt q := fun e => by
    obtain rfl := Option.some.inj e; exact ⟨h.1, h.2⟩
  unfold sCall at e
  rcases ite_or e with ⟨-, e⟩ | e
  · obtain rfl := Option.some.inj e; exact h
  iterate 7 (rcases ite_or e with ⟨-, e⟩ | e; · exact hput e (by constructor <;> (simp only; omega)))
  rcases ite_or e with ⟨-, e⟩ | e
  · obtain rfl := Option.some.inj e
    refine ⟨h.1, fun t ht => ?_⟩
    rcases List.mem_append.1 ht with ht | ht
    · exact h.2 t ht
    · simp at ht; subst ht; exact h.1
  rcases ite_or e with ⟨-, e⟩ | e
  · unfold popT at e
    split at e
    · cases e
    · rename_i u hu
      obtain rfl := Option.some.inj e
      exact ⟨h.2 u (List.mem_of_getLast? hu), fun t ht => h.2 t (List.dropLast_subset _ ht)⟩
  rcases ite_or e with ⟨-, e⟩ | e
  · exact hcfa e
  rcases ite_or e with ⟨-, e⟩ | e
  · exact hcfa e
  rcases ite_or e with ⟨-, e⟩ | e
  · rcases ite_or e with ⟨-, e⟩ | e
    · exact hcfa e
    · cases e
  rcases ite_or e with ⟨-, e⟩ | e
  · exact hcfa e
  · cases e
theorem sRun_kind {off : Int} : ∀ {l : List LCall} {s s' : LSta}, KSt s → sRun off l s = some s' → KSt s' := by
  intro l
  induction l with
  | nil => intro s s' h e; obtain rfl := Option.some.inj e; exact h
  | cons x xs ih =>
    intro s s' h e
    obtain ⟨s1, h1, h2⟩ := Option.bind_eq_some_iff.1 e
    exact ih (sCall_kind h h1) h2
theorem sFde_kind {code : Nat} {off : Int} {pc : Nat} : ∀ {l : List LCall} {loc : Nat} {s s' : LSta}, KSt s → sFde code off pc loc l s = some s' → KSt s' := by
  intro l
  induction l with
  | nil => intro loc s s' h e; obtain rfl := Option.some.inj e; exact h
  | cons x xs ih =>
    intro loc s s' h e
    unfold sFde at e
    rcases ite_or e with ⟨-, e⟩ | e
    · rcases ite_or e with ⟨-, e⟩ | e
      · cases e
      rcases ite_or e with ⟨-, e⟩ | e
      · obtain rfl := Option.some.inj e; exact h
      · exact ih h e
    · obtain ⟨s1, h1, h2⟩ := Option.bind_eq_some_iff.1 e
      exact ih (sCall_kind h h1) h2
theorem sRules_kind {c : LCommon} {f : LFrame} {pc : Nat} {t : LTab} (e : sRules c f pc = some t) : KOk t := by
  unfold sRules at e
  rcases ite_or e with ⟨-, e⟩ | e
  · cases e
  obtain ⟨s, hs, rfl⟩ := Option.map_eq_some_iff.1 e
  obtain ⟨s1, h1, h2⟩ := Option.bind_eq_some_iff.1 hs
  exact (sFde_kind (sRun_kind (show KSt (tab0, []) from ⟨fun k r h => by simp [tab0] at h, fun t ht => by cases ht⟩) h1) h2).1

/-- impl.Frame's answer at a place of the frame f of c, whose rules the reference knows. -/
theorem IFr.full {w w' : World} {l : List LCommon} {pc : Nat} {e : Ending} {c : LCommon} {f : LFrame} {t : LTab} (hA : Apart (allFr l)) (h : IFr w (prs l) pc e w') (hm : (c, f) ∈ prs l) (hin : inF f pc = true) (ht : iRules c f pc = some t) :
    ∃ (sa : Option Addr) (sc : Nat) (ra : Option Addr) (rc : Nat) (rows : List (Int × LRule)), e = .returned (.tuple #[.int .u64 (f.start : Int), .int .u64 ((f.start + f.size : Nat) : Int), .agg #[.int .i64 (kindI t.cfa.kind), .int .i64 t.cfa.reg, .int .i64 t.cfa.n, .slice sa t.cfa.expr.length sc], .slice ra rows.length rc, .int .i64 c.ret, .bool true]) ∧
      Sl w' (.slice sa t.cfa.expr.length sc) (vbs t.cfa.expr) ∧ RSl 5 (REnt w') w' (.slice ra rows.length rc) rows ∧ rows.length ≤ 9223372036854775807 ∧ RowsOf t rows ∧ Fr [] w w' := by
  obtain ⟨hf, ⟨h1, rfl⟩ | ⟨k, c', x, hk, hx, h1⟩⟩ := h
  · have := h1 _ hm; rw [hin] at this; cases this
  · have e1 := prs_one hA hk hm hx hin
    cases e1
    rw [ht] at h1
    obtain ⟨cv, rv, rows, rfl, ⟨ev, rfl, hsl⟩, hrs, hro⟩ := h1
    obtain ⟨sa, sc, rfl⟩ := sl_form hsl
    obtain ⟨ra, rc, rfl, h5, h6⟩ := hrs.shape
    exact ⟨sa, sc, ra, rc, rows, rfl, hsl, hrs, by omega, hro, hf⟩

set_option maxRecDepth 100000 in
set_option maxHeartbeats 40000000 in
theorem FnRules_walk (v : Value) (l : List LCommon) (wh wv : Int) (w : World) (h : RList w v l) (hwh : i64 wh) (hwv : i64 wv) :
    Calls Tryz.prog 4 #[v, .int .i64 wh, .int .i64 wv] w fun e w' => e = .returned (.bool true) ∧ Fr [] w w' := by
  obtain ⟨a0, c0, rfl, hcap1, hcap2⟩ := RSl.shape h
  have H := Lib.hid h
  cases hfit : fits1 l
  · have Hfit := Lib.hid hfit
    clear h hfit
    go_enter Tryz.func4, Tryz.ntmps4
    go_wp2_with (go_at_call 5; go_must (refine (zzFits1_any w _ l _ H.out (Fr.refl _ _)).mono ?_); rw [Hfit.out]; rintro e w1 ⟨rfl, hf1⟩; have Hf1 := Lib.hid hf1; clear hf1)
    go_ret
    exact ⟨rfl, Hf1.out⟩
  cases hri : rightL l
  · have Hfit := Lib.hid hfit
    have Hri := Lib.hid hri
    clear h hfit hri
    go_enter Tryz.func4, Tryz.ntmps4
    go_wp2_with (first | (go_at_call 5; go_must (refine (zzFits1_any w _ l _ H.out (Fr.refl _ _)).mono ?_); rw [Hfit.out]; rintro e w1 ⟨rfl, hf1⟩; have Hf1 := Lib.hid hf1; clear hf1) | (go_at_call 6; go_must (refine (Right_any w _ l _ H.out Hf1.out).mono ?_); rw [Hri.out]; rintro e w2 ⟨rfl, hf2⟩; have Hf2 := Lib.hid (Hf1.out.then hf2); clear hf2) | (go_at_call 8; go_must (refine (works_any _).mono ?_); rintro e w3 ⟨rfl, hf3⟩; have Hf3 := Lib.hid ((Hf2.out).then hf3); clear hf3))
    go_ret
    exact ⟨rfl, Hf3.out⟩
  obtain ⟨hl8, hall⟩ : l.length ≤ 8 ∧ ∀ c ∈ l, rcB c = true := by simpa [rightL] using hri
  have Hfit := Lib.hid hfit
  have Hri := Lib.hid hri
  have Hall := Lib.hid hall
  have HI64 := Lib.hid (rlist_i64 h)
  have HIO := Lib.hid (items_ok h hl8 hall)
  have hD := HIO.out.hl
  have HWH := Lib.hid hwh
  have HWV := Lib.hid hwv
  clear h hfit hri hall hwh hwv
  obtain ⟨D, hDe⟩ : ∃ D, sectionL l = D := ⟨_, rfl⟩
  rw [hDe] at HIO hD
  have HDe := Lib.hid hDe
  clear hDe
  go_enter Tryz.func4, Tryz.ntmps4
  go_wp2_with (first | (go_at_call 5; go_must (refine (zzFits1_any w _ l _ H.out (Fr.refl _ _)).mono ?_); rw [Hfit.out]; rintro e w1 ⟨rfl, hf1⟩; have Hf1 := Lib.hid hf1; clear hf1) | (go_at_call 6; go_must (refine (Right_any w _ l _ H.out Hf1.out).mono ?_); rw [Hri.out]; rintro e w2 ⟨rfl, hf2⟩; have Hf2 := Lib.hid (Hf1.out.then hf2); clear hf2) | (go_at_call 7; go_must (refine (apart_any w _ l _ H.out Hf2.out hl8 Hall.out).mono ?_)))
  rintro e w3 ⟨b, rfl, hb, hf3⟩
  have Hf3 := Lib.hid (Hf2.out.then hf3)
  clear hf3
  cases b
  · clear hb
    go_wp2_with (go_at_call 8; go_must (refine (works_any _).mono ?_); rintro e w4 ⟨rfl, hf4⟩; have Hf4 := Lib.hid ((Hf3.out).then hf4); clear hf4)
    go_ret
    exact ⟨rfl, Hf4.out⟩
  have HAp := Lib.hid (hb rfl)
  clear hb
  by_cases h0 : wh < 0
  · have q0 : decide (wh < 0) = true := by simpa using h0
    clear h0
    go_wp2_with (go_at_call 8; go_must (refine (works_any _).mono ?_); rintro e w4 ⟨rfl, hf4⟩; have Hf4 := Lib.hid ((Hf3.out).then hf4); clear hf4)
    go_ret
    exact ⟨rfl, Hf4.out⟩
  have q0 : decide (wh < 0) = false := by simpa using h0
  by_cases h1 : wv < 0
  · have q1 : decide (wv < 0) = true := by simpa using h1
    clear h0 h1
    go_wp2_with (go_at_call 8; go_must (refine (works_any _).mono ?_); rintro e w4 ⟨rfl, hf4⟩; have Hf4 := Lib.hid ((Hf3.out).then hf4); clear hf4)
    go_ret
    exact ⟨rfl, Hf4.out⟩
  have q1 : decide (wv < 0) = false := by simpa using h1
  go_upto_region 5 with fail
  obtain ⟨nh, rfl⟩ := Int.eq_ofNat_of_zero_le (show 0 ≤ wh by omega)
  obtain ⟨nv, rfl⟩ := Int.eq_ofNat_of_zero_le (show 0 ≤ wv by omega)
  have hnh : nh < 9223372036854775808 := by have := HWH.out; unfold i64 at this; omega
  have hnv : nv < 9223372036854775808 := by have := HWV.out; unfold i64 at this; omega
  clear h0 h1 q0 q1 HWH HWV
  go_upto_region 6 with (go_at_call 9; go_must (refine (Section_any w _ l _ H.out Hf3.out hl8 Hall.out).mono ?_); rintro e w4 ⟨a4, c4, rfl, ho4, hf4⟩; rw [HDe.out] at ho4 ⊢; have S4 := Lib.hid (own_sl ho4); have Hf4 := Lib.hid (Hf3.out.then hf4); clear ho4 hf4)
  go_wp2_with fail
  go_loopw [1, 48] (fun h s wr => ∃ k n : Nat, k ≤ l.length ∧ s = .int .i64 (k : Int) ∧ h = .int .i64 (n : Int) ∧ n < 9223372036854775808 ∧ Fr [] w4 wr) (fun _ s _ => l.length - (intOf s).toNat)
  case atStart => exact ⟨0, nh, Nat.zero_le _, rfl, rfl, hnh, Fr.refl _ _⟩
  case round =>
    obtain ⟨wo, rfl⟩ : ∃ wo : World, wo = wr := ⟨_, rfl⟩
    obtain ⟨k, n, hk, rfl, rfl, hn, hfr⟩ := hrel
    have Hfr := Lib.hid (Hf4.out.then hfr)
    have HFR := Lib.hid hfr
    clear hfr
    by_cases hlt : k < l.length
    case neg =>
      obtain rfl : k = l.length := by omega
      clear hlt hk
      go_wp2_with (go_at_call 8; go_must (refine (works_any _).mono ?_); rintro e w7 ⟨rfl, hf7⟩; have Hf7 := Lib.hid ((Hfr.out).then hf7); clear hf7)
      go_ret
      exact ⟨rfl, Hf7.out⟩
    case pos =>
      obtain ⟨g, o, ca, cc, fa, fc, rfl, d0, d1, d2, d3, d4, d5, hd, he, hi1, hi2, hi3, hi4⟩ := common_at H.out Hfr.out k hlt
      have hcm : l[k] ∈ l := List.getElem_mem hlt
      generalize l[k] = x at *
      have HRC := Lib.hid (Hall.out _ hcm)
      have HCM := Lib.hid hcm
      clear hcm
      obtain ⟨xv, xcode, xoff, xret, xcalls, xframes⟩ := x
      simp only at d0 d1 d2 d3 d4 d5 he hd
      have HE := Lib.hid he
      have HD := Lib.hid hd
      clear he hd hi1 hi2 hi3 hi4
      go_upto_region 9 with fail
      have hB7 := blk_new wo (.cells #[.int .i64 xv, .int .u64 (xcode : Int), .int .i64 xoff, .int .i64 xret, .slice ca xcalls.length cc, .slice fa xframes.length fc] 36)
      have hF1 : Fr [] wo (wo.alloc (.cells #[.int .i64 xv, .int .u64 (xcode : Int), .int .i64 xoff, .int .i64 xret, .slice ca xcalls.length cc, .slice fa xframes.length fc] 36)) := (Fr.refl _ _).alloc _
      generalize wo.alloc (.cells #[.int .i64 xv, .int .u64 (xcode : Int), .int .i64 xoff, .int .i64 xret, .slice ca xcalls.length cc, .slice fa xframes.length fc] 36) = w7 at *
      obtain ⟨cb, hcb⟩ : ∃ cb, wo.heap.size = cb := ⟨_, rfl⟩
      rw [hcb] at hB7
      simp only [hcb]
      have HB7 := Lib.hid hB7
      have HF7 := Lib.hid (Hfr.out.then hF1)
      have HF47 := Lib.hid (HFR.out.then hF1)
      have m5 : w7.cell? ⟨cb, 5, none⟩ = some (.slice fa xframes.length fc) := blk_cell hB7 5
      clear hF1 d0 d1 d2 d3 d4 d5 hcb hB7
      have hxl : xframes.length ≤ 8 := (rc_facts HRC.out).2.2.2.2.2.2.2.1
      by_cases hge : xframes.length ≤ n
      · have q1 : decide ((xframes.length : Int) ≤ (n : Int)) = true := by simp; exact hge
        have q2 : decide (xframes.length ≤ n) = true := by simp; exact hge
        have e1 : IntKind.i64.wrap ((n : Int) - (xframes.length : Int)) = ((n - xframes.length : Nat) : Int) := by
          rw [Int.ofNat_sub hge]; exact IntWalk.i64_in _ (by omega)
        go_wp2_with fail
        go_roundw
        case rel => exact ⟨k + 1, n - xframes.length, by omega, by go_num, rfl, by omega, HF47.out⟩
        case measure => simp [intOf]; omega
      · have q1 : decide ((xframes.length : Int) ≤ (n : Int)) = false := by simp; omega
        have q2 : decide (xframes.length ≤ n) = false := by simp; omega
        have hjt : n < xframes.length := by omega
        obtain ⟨gf, of, da, dc, rfl, d0, d1, d2, hfd, hz1, hz2⟩ := frame_at HE.out HF7.out n hjt
        have hfm : xframes[n] ∈ xframes := List.getElem_mem hjt
        generalize xframes[n] = fx at *
        have HFRB := Lib.hid ((rc_facts HRC.out).2.2.2.2.2.2.2.2.2.2 _ hfm)
        obtain ⟨hs0, hs1, hs2, -, -⟩ := fr_facts HFRB.out
        have HFM := Lib.hid hfm
        have HFD := Lib.hid hfd
        obtain ⟨fs, fz, fcs⟩ := fx
        simp only at d0 d1 d2 hz1 hz2 hs1 hs2 hs0
        have HZ := Lib.hid (And.intro hz1 hz2)
        clear hfm hfd hz1 hz2 hge
        go_upto_region 12 with fail
        have hB8 := blk_new w7 (.cells #[.int .u64 (fs : Int), .int .u64 (fz : Int), .slice da fcs.length dc] 38)
        have hF8 : Fr [] w7 (w7.alloc (.cells #[.int .u64 (fs : Int), .int .u64 (fz : Int), .slice da fcs.length dc] 38)) := (Fr.refl _ _).alloc _
        generalize w7.alloc (.cells #[.int .u64 (fs : Int), .int .u64 (fz : Int), .slice da fcs.length dc] 38) = w8 at *
        obtain ⟨db, hdb⟩ : ∃ db, w7.heap.size = db := ⟨_, rfl⟩
        rw [hdb] at hB8
        simp only [hdb]
        have HB8 := Lib.hid hB8
        have HF78 := Lib.hid hF8
        have n0 : w8.cell? ⟨db, 0, none⟩ = some (.int .u64 (fs : Int)) := blk_cell hB8 0
        have n1 : w8.cell? ⟨db, 1, none⟩ = some (.int .u64 (fz : Int)) := blk_cell hB8 1
        have n2 : w8.cell? ⟨db, 2, none⟩ = some (.slice da fcs.length dc) := blk_cell hB8 2
        clear hB8 hF8 d0 d1 d2 hdb m5
        have hmod : nv % fz < fz := Nat.mod_lt _ (by omega)
        have ev : IntKind.u64.wrap (nv : Int) = (nv : Int) := by rw [IntKind.wrap_u64]; omega
        have ez : ((fz : Int) == 0) = false := by rw [beq_eq_false_iff_ne]; omega
        have ez2 : (fz : Int) ≠ 0 := by omega
        go_quiet (fail)
        have hpe : (fs : Int) + (nv : Int) % (fz : Int) = ((fs + nv % fz : Nat) : Int) := by push_cast; rfl
        rw [hpe]
        have hin : inF ⟨fs, fz, fcs⟩ (fs + nv % fz) = true := by simp [inF]; omega
        have hp64 : fs + nv % fz < 18446744073709551616 := by omega
        generalize fs + nv % fz = pc at *
        have HIN := Lib.hid hin
        have HF89 : Hid (Fr [] w7 (w8.drewN nq)) := HF78.out.drewN _
        have HF8 : Hid (Fr [] w8 (w8.drewN nq)) := (Fr.refl _ _).drewN _
        generalize w8.drewN nq = w9 at *
        have HBC := HF89.out.get HB7.out (by simp)
        have j0 : w9.cell? ⟨cb, 0, none⟩ = some (.int .i64 xv) := blk_cell HBC 0
        have j1 : w9.cell? ⟨cb, 1, none⟩ = some (.int .u64 (xcode : Int)) := blk_cell HBC 1
        have j2 : w9.cell? ⟨cb, 2, none⟩ = some (.int .i64 xoff) := blk_cell HBC 2
        have j3 : w9.cell? ⟨cb, 3, none⟩ = some (.int .i64 xret) := blk_cell HBC 3
        have j4 : w9.cell? ⟨cb, 4, none⟩ = some (.slice ca xcalls.length cc) := blk_cell HBC 4
        have j5 : w9.cell? ⟨cb, 5, none⟩ = some (.slice (some ⟨gf, of, none⟩) xframes.length fc) := blk_cell HBC 5
        have HBD := HF8.out.get HB8.out (by simp)
        have n0 : w9.cell? ⟨db, 0, none⟩ = some (.int .u64 (fs : Int)) := blk_cell HBD 0
        have n1 : w9.cell? ⟨db, 1, none⟩ = some (.int .u64 (fz : Int)) := blk_cell HBD 1
        have n2 : w9.cell? ⟨db, 2, none⟩ = some (.slice da fcs.length dc) := blk_cell HBD 2
        have HF9 := Lib.hid (HF7.out.then HF89.out)
        have HRU : Hid (Calls Tryz.prog 11 #[.agg #[.int .i64 xv, .int .u64 (xcode : Int), .int .i64 xoff, .int .i64 xret, .slice ca xcalls.length cc, .slice (some ⟨gf, of, none⟩) xframes.length fc], .agg #[.int .u64 (fs : Int), .int .u64 (fz : Int), .slice da fcs.length dc], .int .u64 (pc : Int)] w9 (QOut (sRules ⟨xv, xcode, xoff, xret, xcalls, xframes⟩ ⟨fs, fz, fcs⟩ pc) w9)) :=
          Rules_any w w9 ⟨xv, xcode, xoff, xret, xcalls, xframes⟩ _ _ _ ⟨fs, fz, fcs⟩ pc HF9.out HD.out HFD.out HRC.out HFRB.out HZ.out hp64
        clear hin HBC HBD hpe hmod ev ez ez2 q1 q2 hjt
        cases hsr : sRules ⟨xv, xcode, xoff, xret, xcalls, xframes⟩ ⟨fs, fz, fcs⟩ pc with
        | none =>
          rw [hsr] at HRU
          clear hsr
          go_wp2_with (first | (go_at_call 8; go_must (refine (works_any _).mono ?_); rintro e w11 ⟨rfl, hf11⟩; have Hf11 := Lib.hid ((Hf10.out.then (by repeat (first | exact Fr.refl _ _ | refine Fr.alloc ?_ _))).then hf11); clear hf11) | (go_at_call 11; go_must (refine HRU.out.mono ?_); rintro e w10 ⟨rfl, hf10⟩; unfold tabZ; have Hf10 := Lib.hid (HF9.out.then hf10); clear hf10))
          go_ret
          exact ⟨rfl, Hf11.out⟩
        | some t =>
          rw [hsr] at HRU
          have hsim := rules_sim (fun y hy => ccB_ne20 ((rc_facts HRC.out).2.2.2.2.2.2.2.2.2.1 y hy)) (fun y hy => cfB_ne20 ((fr_facts HFRB.out).2.2.2.2 y hy)) hsr
          obtain ⟨t', ht', htab⟩ := hsim
          have HT' := Lib.hid ht'
          have HTAB := Lib.hid htab
          have HKO := Lib.hid (sRules_kind hsr)
          clear hsr ht' htab
          go_upto_region 14 with (go_at_call 11; go_must (refine HRU.out.mono ?_); rintro e w10 ⟨ev, mb, rfl, hsl, hsm, hf10⟩; obtain ⟨ea, ec, rfl⟩ := sl_form hsl; simp only [stab]; have HSL := Lib.hid hsl; have HSM := Lib.hid hsm; have Hf10 := Lib.hid (HF9.out.then hf10); have HF910 := Lib.hid hf10; clear hsl hsm hf10)
          obtain ⟨el, hel⟩ : ∃ el, t.cfa.expr.length = el := ⟨_, rfl⟩
          rw [hel] at HSL ⊢
          have HEL := Lib.hid hel
          clear hel
          have hfA : Fr [] w10 (w10.alloc (.cells #[.int .i64 t.cfa.kind, .int .i64 t.cfa.reg, .int .i64 t.cfa.n, .slice ea el ec, .map (some mb)] 42)) := (Fr.refl _ _).alloc _
          have hbA := blk_new w10 (.cells #[.int .i64 t.cfa.kind, .int .i64 t.cfa.reg, .int .i64 t.cfa.n, .slice ea el ec, .map (some mb)] 42)
          generalize w10.alloc (.cells #[.int .i64 t.cfa.kind, .int .i64 t.cfa.reg, .int .i64 t.cfa.n, .slice ea el ec, .map (some mb)] 42) = wA at *
          obtain ⟨tb, htb⟩ : ∃ tb, w10.heap.size = tb := ⟨_, rfl⟩
          rw [htb] at hbA
          simp only [htb]
          have HBA := Lib.hid hbA
          have HFA := Lib.hid (Hf10.out.then hfA)
          have HF10A := Lib.hid hfA
          have HF9A := Lib.hid (HF910.out.then hfA)
          have HSA : Hid (Sl wA (.slice a4 D.length c4) (vbs D)) := S4.out.fr (((HF47.out.then HF89.out).then HF910.out).then hfA) (by simp)
          clear hbA hfA htb j0 j1 j2 j3 j4 j5 n0 n1 n2
          go_upto_region 17 with (go_at_call 10; go_must (refine (iFrame_any a4 c4 D l pc _ HIO.out HSA.out HAp.out Hall.out HI64.out hp64).mono ?_); rintro e w11 h11; obtain ⟨sa, sc, ra, rc, rows, rfl, hcs, hrs, hrl, hro, hf11⟩ := h11.full HAp.out (prs_mem.2 ⟨HCM.out, HFM.out⟩) HIN.out HT'.out; have HCS := Lib.hid hcs; have HRS := Lib.hid hrs; have HRO := Lib.hid hro; have HF11 := Lib.hid hf11; clear h11 hcs hrs hro hf11)
          obtain ⟨kk, hkk⟩ : ∃ kk, t.cfa.kind = kk := ⟨_, rfl⟩
          obtain ⟨ki, hki⟩ : ∃ ki, kindI t'.cfa.kind = ki := ⟨_, rfl⟩
          obtain ⟨il, hil⟩ : ∃ il, t'.cfa.expr.length = il := ⟨_, rfl⟩
          rw [hkk] at HBA
          rw [hil] at HCS
          simp only [hki, hil]
          have HKK := Lib.hid hkk
          have HKI := Lib.hid hki
          clear hkk hki hil
          have hfB : Fr [] w11 (w11.alloc (.cells #[.int .i64 ki, .int .i64 t'.cfa.reg, .int .i64 t'.cfa.n, .slice sa il sc] 29)) := (Fr.refl _ _).alloc _
          have hbB := blk_new w11 (.cells #[.int .i64 ki, .int .i64 t'.cfa.reg, .int .i64 t'.cfa.n, .slice sa il sc] 29)
          generalize w11.alloc (.cells #[.int .i64 ki, .int .i64 t'.cfa.reg, .int .i64 t'.cfa.n, .slice sa il sc] 29) = wB at *
          obtain ⟨ib, hib⟩ : ∃ ib, w11.heap.size = ib := ⟨_, rfl⟩
          rw [hib] at hbB
          simp only [hib]
          have HFB := Lib.hid ((HFA.out.then HF11.out).then hfB)
          have HF11B := Lib.hid hfB
          have HFAB : Hid (Fr [] wA wB) := HF11.out.then hfB
          have HF10B : Hid (Fr [] w10 wB) := HF10A.out.then HFAB.out
          have hbc := (HF9A.out.then HFAB.out).get (HF89.out.get HB7.out (by simp)) (by simp)
          have j3 : wB.cell? ⟨cb, 3, none⟩ = some (.int .i64 xret) := blk_cell hbc 3
          have hbt := HFAB.out.get HBA.out (by simp)
          have t0 : wB.cell? ⟨tb, 0, none⟩ = some (.int .i64 kk) := blk_cell hbt 0
          have t1 : wB.cell? ⟨tb, 1, none⟩ = some (.int .i64 t.cfa.reg) := blk_cell hbt 1
          have t2 : wB.cell? ⟨tb, 2, none⟩ = some (.int .i64 t.cfa.n) := blk_cell hbt 2
          have t3 : wB.cell? ⟨tb, 3, none⟩ = some (.slice ea el ec) := blk_cell hbt 3
          have t4 : wB.cell? ⟨tb, 4, none⟩ = some (.map (some mb)) := blk_cell hbt 4
          have i0 : wB.cell? ⟨ib, 0, none⟩ = some (.int .i64 ki) := blk_cell hbB 0
          have i1 : wB.cell? ⟨ib, 1, none⟩ = some (.int .i64 t'.cfa.reg) := blk_cell hbB 1
          have i2 : wB.cell? ⟨ib, 2, none⟩ = some (.int .i64 t'.cfa.n) := blk_cell hbB 2
          have i3 : wB.cell? ⟨ib, 3, none⟩ = some (.slice sa il sc) := blk_cell hbB 3
          obtain ⟨fm, hmf, hmk⟩ := HSM.out
          obtain ⟨es, clock, heb, hcount⟩ := MapIs.len (P := Tryz.prog) hmf
          have hmm : ∀ q, (t.rules q).isSome = (fm q).isSome := fun q => by
            rcases hmk q with ⟨h1, h2⟩ | ⟨r, v, h1, h2, -⟩
            · rw [h1, h2]; rfl
            · rw [h1, h2]; rfl
          have hes : rows.length = es.size := by
            have h := hcount (rows.map (·.1)) HRO.out.1 (fun q => by
              rw [← hmm q, HTAB.out.2]
              constructor
              · intro hq
                obtain ⟨y, hy, rfl⟩ := List.mem_map.1 hq
                rw [HRO.out.2.1 y hy]; rfl
              · intro hq
                obtain ⟨r, hr⟩ := Option.isSome_iff_exists.1 hq
                exact HRO.out.2.2 q r hr)
            rw [List.length_map] at h; exact h
          have HLN : Hid (∀ W, Fr [] wB W → ∀ ty, (Builtin.len_ #[40] ty #[.map (some mb)]).run Tryz.prog W = .ok (.int .i64 (rows.length : Int)) W) := fun W f ty => by
            have h := run_len_map (P := Tryz.prog) W 40 ty mb es clock (by kernel_rfl) ((HF10B.out.then f).get heb (by simp))
            simp only [goInt] at h
            rw [hes]; exact h
          have HMF := Lib.hid (And.intro hmf hmk)
          clear hfB hbB hib hbc hbt hmf hmk heb hcount hmm hes
          by_cases hk0 : kk = 0
          · subst hk0
            have hln := HLN.out wB (Fr.refl _ _)
            obtain ⟨wC, hwC⟩ : ∃ wC, wC = wB := ⟨_, rfl⟩
            have HBC : Hid (Fr [] wB wB) := Fr.refl _ _
            clear hwC
            go_upto_region 19 with fail
            go_wp2_with fail
            go_loopw [126] (fun i wr => ∃ q : Nat, q ≤ rows.length ∧ i = .int .i64 (q : Int) ∧ Fr [] wB wr) (fun i _ => rows.length - (intOf i).toNat)
            case atStart => exact ⟨0, Nat.zero_le _, rfl, Fr.refl _ _⟩
            case round =>
              obtain ⟨wq, rfl⟩ : ∃ wq : World, wq = wr := ⟨_, rfl⟩
              obtain ⟨q, hq, rfl, hfq⟩ := hrel
              have HFQ := Lib.hid (HBC.out.then hfq)
              have HFW := Lib.hid hfq
              clear hfq
              by_cases hqt : q < rows.length
              case neg =>
                obtain rfl : q = rows.length := by omega
                clear hqt hq
                go_wp2_with (go_at_call 8; go_must (refine (works_any _).mono ?_); rintro e w20 ⟨rfl, hf20⟩; have Hf20 := Lib.hid ((HFB.out.then HFQ.out).then hf20); clear hf20)
                go_ret
                exact ⟨rfl, Hf20.out⟩
              case pos =>
                obtain ⟨g2, o2, rfl, -, hel⟩ := HRS.out.elem (by decide) (by omega)
                obtain ⟨vs, hvl, ⟨ev2, rfl, hsl2⟩, hcl⟩ := hel q hqt
                have hem : rows[q] ∈ rows := List.getElem_mem hqt
                generalize rows[q] = en at *
                obtain ⟨key, ⟨rk, rg, rn, rx⟩⟩ := en
                simp only at hcl hsl2
                obtain ⟨xa, xc, rfl⟩ := sl_form hsl2
                have hrk : t.rules key = some ⟨rk, rg, rn, rx⟩ := by rw [HTAB.out.2]; exact HRO.out.2.1 _ hem
                obtain ⟨ev3, hfk, hsl3⟩ : ∃ ev3, fm key = some (.agg #[.int .i64 rk, .int .i64 rg, .int .i64 rn, ev3]) ∧ Sl w10 ev3 (vbs rx) := by
                  rcases HMF.out.2 key with ⟨h1, -⟩ | ⟨r', v', h1, h2, ev3, h3, h4⟩
                  · rw [hrk] at h1; cases h1
                  · rw [hrk] at h1; obtain rfl := Option.some.inj h1
                    exact ⟨ev3, by rw [h2, h3], h4⟩
                obtain ⟨ya, yc, rfl⟩ := sl_form hsl3
                have hag : RAgree ⟨kindI rk, rg, rn, rx⟩ ⟨rk, rg, rn, rx⟩ := rule_agree (r := ⟨rk, rg, rn, rx⟩) (HKO.out key _ hrk)
                have HAG := Lib.hid hag
                have FQ : Fr [] w11 wq := HF11B.out.then HFQ.out
                obtain ⟨xl, hxl2⟩ : ∃ xl, rx.length = xl := ⟨_, rfl⟩
                rw [hxl2] at hcl hsl2 hsl3 hfk
                have u0 : wq.cell? ⟨g2, o2 + q * 5, none⟩ = some (.int .i64 key) := FQ.cell (hcl 0 _ rfl) (by simp)
                have u1 : wq.cell? ⟨g2, o2 + q * 5 + 1, none⟩ = some (.int .i64 (kindI rk)) := FQ.cell (hcl 1 _ rfl) (by simp)
                have u2 : wq.cell? ⟨g2, o2 + q * 5 + 2, none⟩ = some (.int .i64 rg) := FQ.cell (hcl 2 _ rfl) (by simp)
                have u3 : wq.cell? ⟨g2, o2 + q * 5 + 3, none⟩ = some (.int .i64 rn) := FQ.cell (hcl 3 _ rfl) (by simp)
                have u4 : wq.cell? ⟨g2, o2 + q * 5 + 4, none⟩ = some (.slice xa xl xc) := FQ.cell (hcl 4 _ rfl) (by simp)
                have HS2 := Lib.hid hsl2
                have HS3 := Lib.hid hsl3
                have HFK := Lib.hid hfk
                have HFQ2 := Lib.hid FQ
                have t4q : wq.cell? ⟨tb, 4, none⟩ = some (.map (some mb)) := HFW.out.cell t4 (by simp)
                obtain ⟨ki2, hki2⟩ : ∃ ki2, kindI rk = ki2 := ⟨_, rfl⟩
                rw [hki2] at u1 HAG
                clear hel hvl hsl2 hcl hem hrk hfk hsl3 hag FQ hxl2 hki2
                go_upto_region 22 with fail
                have hbE := blk_new wq (.cells #[.int .i64 key, .int .i64 ki2, .int .i64 rg, .int .i64 rn, .slice xa xl xc] 48)
                have hfE : Fr [] wq (wq.alloc (.cells #[.int .i64 key, .int .i64 ki2, .int .i64 rg, .int .i64 rn, .slice xa xl xc] 48)) := (Fr.refl _ _).alloc _
                generalize wq.alloc (.cells #[.int .i64 key, .int .i64 ki2, .int .i64 rg, .int .i64 rn, .slice xa xl xc] 48) = wE at *
                obtain ⟨eb, heb⟩ : ∃ eb, wq.heap.size = eb := ⟨_, rfl⟩
                rw [heb] at hbE
                simp only [heb]
                have HBE := Lib.hid hbE
                have HFE := Lib.hid hfE
                have y0 : wE.cell? ⟨eb, 0, none⟩ = some (.int .i64 key) := blk_cell hbE 0
                have t4E : wE.cell? ⟨tb, 4, none⟩ = some (.map (some mb)) := hfE.cell t4q (by simp)
                have hzz : ∀ w : World, (zeroValue 39).run Tryz.prog w = .ok (.agg #[.int .i64 0, .int .i64 0, .int .i64 0, .slice none 0 0]) w := fun w => by kernel_rfl
                have hlk : (Instr.lookup 40 (.map (some mb)) (.int .i64 key) true).run Tryz.prog wE = .ok (.tuple #[.agg #[.int .i64 rk, .int .i64 rg, .int .i64 rn, .slice ya xl yc], .bool true]) wE := by
                  have h := MapIs.lookup (P := Tryz.prog) (HMF.out.1.fr ((HF10B.out.then HFQ.out).then hfE) (by simp)) Tryz.underlying40 Tryz.underlying3 key _ (hzz _) true
                  rw [HFK.out] at h; exact h
                clear u0 u1 u2 u3 u4 hbE hfE heb hzz t4q
                go_upto_region 23 with fail
                have hbG := blk_new wE (.cells #[.int .i64 rk, .int .i64 rg, .int .i64 rn, .slice ya xl yc] 39)
                have hfG : Fr [] wE (wE.alloc (.cells #[.int .i64 rk, .int .i64 rg, .int .i64 rn, .slice ya xl yc] 39)) := (Fr.refl _ _).alloc _
                generalize wE.alloc (.cells #[.int .i64 rk, .int .i64 rg, .int .i64 rn, .slice ya xl yc] 39) = wG at *
                obtain ⟨gb, hgb⟩ : ∃ gb, wE.heap.size = gb := ⟨_, rfl⟩
                rw [hgb] at hbG
                simp only [hgb]
                have HFG := Lib.hid hfG
                have g0 : wG.cell? ⟨gb, 0, none⟩ = some (.int .i64 rk) := blk_cell hbG 0
                have g1 : wG.cell? ⟨gb, 1, none⟩ = some (.int .i64 rg) := blk_cell hbG 1
                have g2' : wG.cell? ⟨gb, 2, none⟩ = some (.int .i64 rn) := blk_cell hbG 2
                have g3 : wG.cell? ⟨gb, 3, none⟩ = some (.slice ya xl yc) := blk_cell hbG 3
                have hbe := hfG.get HBE.out (by simp)
                have x1 : wG.cell? ⟨eb, 1, none⟩ = some (.int .i64 ki2) := blk_cell hbe 1
                have x2 : wG.cell? ⟨eb, 2, none⟩ = some (.int .i64 rg) := blk_cell hbe 2
                have x3 : wG.cell? ⟨eb, 3, none⟩ = some (.int .i64 rn) := blk_cell hbe 3
                have x4 : wG.cell? ⟨eb, 4, none⟩ = some (.slice xa xl xc) := blk_cell hbe 4
                have HLQ : Hid (Calls Tryz.prog 12 #[.agg #[.int .i64 ki2, .int .i64 rg, .int .i64 rn, .slice xa xl xc], .agg #[.int .i64 rk, .int .i64 rg, .int .i64 rn, .slice ya xl yc]] wG fun e w' => e = .returned (.bool true) ∧ Fr [] wG w') :=
                  lrule_any ⟨ki2, rg, rn, rx⟩ ⟨rk, rg, rn, rx⟩ _ _ wG HAG.out (HS2.out.fr ((HFQ2.out.then HFE.out).then hfG) (by simp)) (HS3.out.fr (((HF10B.out.then HFQ.out).then HFE.out).then hfG) (by simp))
                clear hbG hfG hgb hbe hlk y0 t4E
                go_wp2_with (go_at_call 12; go_must (refine HLQ.out.mono ?_); rintro e wH ⟨rfl, hfH⟩; have HFH := Lib.hid hfH; clear hfH)
                go_wp2_with fail
                go_roundw
                case rel => exact ⟨q + 1, by omega, by go_num, ((HFW.out.then HFE.out).then HFG.out).then HFH.out⟩
                case measure => simp [intOf]; omega
          · have qk : (kk == 0) = false := beq_eq_false_iff_ne.2 hk0
            have qk2 : (kk != 0) = true := bne_iff_ne.2 hk0
            have qk3 : decide (kk = 0) = false := decide_eq_false hk0
            have hag : RAgree ⟨ki, t'.cfa.reg, t'.cfa.n, t'.cfa.expr⟩ ⟨kk, t.cfa.reg, t.cfa.n, t.cfa.expr⟩ := by
              have h := cfa_agree HTAB.out.1 (by rw [HKK.out]; exact hk0)
              rw [HKI.out] at h
              have e : t.cfa = ⟨kk, t.cfa.reg, t.cfa.n, t.cfa.expr⟩ := by rw [← HKK.out]
              rw [e] at h; exact h
            have HLR : Hid (Calls Tryz.prog 12 #[.agg #[.int .i64 ki, .int .i64 t'.cfa.reg, .int .i64 t'.cfa.n, .slice sa il sc], .agg #[.int .i64 kk, .int .i64 t.cfa.reg, .int .i64 t.cfa.n, .slice ea el ec]] wB fun e w' => e = .returned (.bool true) ∧ Fr [] wB w') :=
              lrule_any ⟨ki, t'.cfa.reg, t'.cfa.n, t'.cfa.expr⟩ ⟨kk, t.cfa.reg, t.cfa.n, t.cfa.expr⟩ _ _ wB hag (HCS.out.fr HF11B.out (by simp)) ((HSL.out.fr HF10B.out (by simp)))
            clear hag hk0
            go_upto_region 19 with (go_at_call 12; go_must (refine HLR.out.mono ?_); rintro e wC ⟨rfl, hfC⟩; have HBC := Lib.hid hfC; have t0 : wC.cell? ⟨tb, 0, none⟩ = some (.int .i64 kk) := hfC.cell t0 (by simp); have t4 : wC.cell? ⟨tb, 4, none⟩ = some (.map (some mb)) := hfC.cell t4 (by simp); have hln := HLN.out wC hfC; clear hfC)
            go_wp2_with fail
            go_loopw [126] (fun i wr => ∃ q : Nat, q ≤ rows.length ∧ i = .int .i64 (q : Int) ∧ Fr [] wC wr) (fun i _ => rows.length - (intOf i).toNat)
            case atStart => exact ⟨0, Nat.zero_le _, rfl, Fr.refl _ _⟩
            case round =>
              obtain ⟨wq, rfl⟩ : ∃ wq : World, wq = wr := ⟨_, rfl⟩
              obtain ⟨q, hq, rfl, hfq⟩ := hrel
              have HFQ := Lib.hid (HBC.out.then hfq)
              have HFW := Lib.hid hfq
              clear hfq
              by_cases hqt : q < rows.length
              case neg =>
                obtain rfl : q = rows.length := by omega
                clear hqt hq
                go_wp2_with (go_at_call 8; go_must (refine (works_any _).mono ?_); rintro e w20 ⟨rfl, hf20⟩; have Hf20 := Lib.hid ((HFB.out.then HFQ.out).then hf20); clear hf20)
                go_ret
                exact ⟨rfl, Hf20.out⟩
              case pos =>
                obtain ⟨g2, o2, rfl, -, hel⟩ := HRS.out.elem (by decide) (by omega)
                obtain ⟨vs, hvl, ⟨ev2, rfl, hsl2⟩, hcl⟩ := hel q hqt
                have hem : rows[q] ∈ rows := List.getElem_mem hqt
                generalize rows[q] = en at *
                obtain ⟨key, ⟨rk, rg, rn, rx⟩⟩ := en
                simp only at hcl hsl2
                obtain ⟨xa, xc, rfl⟩ := sl_form hsl2
                have hrk : t.rules key = some ⟨rk, rg, rn, rx⟩ := by rw [HTAB.out.2]; exact HRO.out.2.1 _ hem
                obtain ⟨ev3, hfk, hsl3⟩ : ∃ ev3, fm key = some (.agg #[.int .i64 rk, .int .i64 rg, .int .i64 rn, ev3]) ∧ Sl w10 ev3 (vbs rx) := by
                  rcases HMF.out.2 key with ⟨h1, -⟩ | ⟨r', v', h1, h2, ev3, h3, h4⟩
                  · rw [hrk] at h1; cases h1
                  · rw [hrk] at h1; obtain rfl := Option.some.inj h1
                    exact ⟨ev3, by rw [h2, h3], h4⟩
                obtain ⟨ya, yc, rfl⟩ := sl_form hsl3
                have hag : RAgree ⟨kindI rk, rg, rn, rx⟩ ⟨rk, rg, rn, rx⟩ := rule_agree (r := ⟨rk, rg, rn, rx⟩) (HKO.out key _ hrk)
                have HAG := Lib.hid hag
                have FQ : Fr [] w11 wq := HF11B.out.then HFQ.out
                obtain ⟨xl, hxl2⟩ : ∃ xl, rx.length = xl := ⟨_, rfl⟩
                rw [hxl2] at hcl hsl2 hsl3 hfk
                have u0 : wq.cell? ⟨g2, o2 + q * 5, none⟩ = some (.int .i64 key) := FQ.cell (hcl 0 _ rfl) (by simp)
                have u1 : wq.cell? ⟨g2, o2 + q * 5 + 1, none⟩ = some (.int .i64 (kindI rk)) := FQ.cell (hcl 1 _ rfl) (by simp)
                have u2 : wq.cell? ⟨g2, o2 + q * 5 + 2, none⟩ = some (.int .i64 rg) := FQ.cell (hcl 2 _ rfl) (by simp)
                have u3 : wq.cell? ⟨g2, o2 + q * 5 + 3, none⟩ = some (.int .i64 rn) := FQ.cell (hcl 3 _ rfl) (by simp)
                have u4 : wq.cell? ⟨g2, o2 + q * 5 + 4, none⟩ = some (.slice xa xl xc) := FQ.cell (hcl 4 _ rfl) (by simp)
                have HS2 := Lib.hid hsl2
                have HS3 := Lib.hid hsl3
                have HFK := Lib.hid hfk
                have HFQ2 := Lib.hid FQ
                have t4q : wq.cell? ⟨tb, 4, none⟩ = some (.map (some mb)) := HFW.out.cell t4 (by simp)
                obtain ⟨ki2, hki2⟩ : ∃ ki2, kindI rk = ki2 := ⟨_, rfl⟩
                rw [hki2] at u1 HAG
                clear hel hvl hsl2 hcl hem hrk hfk hsl3 hag FQ hxl2 hki2
                go_upto_region 22 with fail
                have hbE := blk_new wq (.cells #[.int .i64 key, .int .i64 ki2, .int .i64 rg, .int .i64 rn, .slice xa xl xc] 48)
                have hfE : Fr [] wq (wq.alloc (.cells #[.int .i64 key, .int .i64 ki2, .int .i64 rg, .int .i64 rn, .slice xa xl xc] 48)) := (Fr.refl _ _).alloc _
                generalize wq.alloc (.cells #[.int .i64 key, .int .i64 ki2, .int .i64 rg, .int .i64 rn, .slice xa xl xc] 48) = wE at *
                obtain ⟨eb, heb⟩ : ∃ eb, wq.heap.size = eb := ⟨_, rfl⟩
                rw [heb] at hbE
                simp only [heb]
                have HBE := Lib.hid hbE
                have HFE := Lib.hid hfE
                have y0 : wE.cell? ⟨eb, 0, none⟩ = some (.int .i64 key) := blk_cell hbE 0
                have t4E : wE.cell? ⟨tb, 4, none⟩ = some (.map (some mb)) := hfE.cell t4q (by simp)
                have hzz : ∀ w : World, (zeroValue 39).run Tryz.prog w = .ok (.agg #[.int .i64 0, .int .i64 0, .int .i64 0, .slice none 0 0]) w := fun w => by kernel_rfl
                have hlk : (Instr.lookup 40 (.map (some mb)) (.int .i64 key) true).run Tryz.prog wE = .ok (.tuple #[.agg #[.int .i64 rk, .int .i64 rg, .int .i64 rn, .slice ya xl yc], .bool true]) wE := by
                  have h := MapIs.lookup (P := Tryz.prog) (HMF.out.1.fr ((HF10B.out.then HFQ.out).then hfE) (by simp)) Tryz.underlying40 Tryz.underlying3 key _ (hzz _) true
                  rw [HFK.out] at h; exact h
                clear u0 u1 u2 u3 u4 hbE hfE heb hzz t4q
                go_upto_region 23 with fail
                have hbG := blk_new wE (.cells #[.int .i64 rk, .int .i64 rg, .int .i64 rn, .slice ya xl yc] 39)
                have hfG : Fr [] wE (wE.alloc (.cells #[.int .i64 rk, .int .i64 rg, .int .i64 rn, .slice ya xl yc] 39)) := (Fr.refl _ _).alloc _
                generalize wE.alloc (.cells #[.int .i64 rk, .int .i64 rg, .int .i64 rn, .slice ya xl yc] 39) = wG at *
                obtain ⟨gb, hgb⟩ : ∃ gb, wE.heap.size = gb := ⟨_, rfl⟩
                rw [hgb] at hbG
                simp only [hgb]
                have HFG := Lib.hid hfG
                have g0 : wG.cell? ⟨gb, 0, none⟩ = some (.int .i64 rk) := blk_cell hbG 0
                have g1 : wG.cell? ⟨gb, 1, none⟩ = some (.int .i64 rg) := blk_cell hbG 1
                have g2' : wG.cell? ⟨gb, 2, none⟩ = some (.int .i64 rn) := blk_cell hbG 2
                have g3 : wG.cell? ⟨gb, 3, none⟩ = some (.slice ya xl yc) := blk_cell hbG 3
                have hbe := hfG.get HBE.out (by simp)
                have x1 : wG.cell? ⟨eb, 1, none⟩ = some (.int .i64 ki2) := blk_cell hbe 1
                have x2 : wG.cell? ⟨eb, 2, none⟩ = some (.int .i64 rg) := blk_cell hbe 2
                have x3 : wG.cell? ⟨eb, 3, none⟩ = some (.int .i64 rn) := blk_cell hbe 3
                have x4 : wG.cell? ⟨eb, 4, none⟩ = some (.slice xa xl xc) := blk_cell hbe 4
                have HLQ : Hid (Calls Tryz.prog 12 #[.agg #[.int .i64 ki2, .int .i64 rg, .int .i64 rn, .slice xa xl xc], .agg #[.int .i64 rk, .int .i64 rg, .int .i64 rn, .slice ya xl yc]] wG fun e w' => e = .returned (.bool true) ∧ Fr [] wG w') :=
                  lrule_any ⟨ki2, rg, rn, rx⟩ ⟨rk, rg, rn, rx⟩ _ _ wG HAG.out (HS2.out.fr ((HFQ2.out.then HFE.out).then hfG) (by simp)) (HS3.out.fr (((HF10B.out.then HFQ.out).then HFE.out).then hfG) (by simp))
                clear hbG hfG hgb hbe hlk y0 t4E
                go_wp2_with (go_at_call 12; go_must (refine HLQ.out.mono ?_); rintro e wH ⟨rfl, hfH⟩; have HFH := Lib.hid hfH; clear hfH)
                go_wp2_with fail
                go_roundw
                case rel => exact ⟨q + 1, by omega, by go_num, ((HFW.out.then HFE.out).then HFG.out).then HFH.out⟩
                case measure => simp [intOf]; omega
end Go.Proofs.YtahohmdfllgedaaGreat
