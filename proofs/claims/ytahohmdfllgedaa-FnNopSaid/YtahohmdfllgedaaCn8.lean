/- laws.FnNop returns true for every input, and each argument reads behind the call as it read before. No condition. -/
import Derived.Test.YtahohmdfllgedaaCn6
import Derived.Test.YtahohmdfllgedaaCn7
set_option linter.unusedVariables false
set_option linter.unusedSimpArgs false
namespace Go.Proofs.Ytahohmdfllgedaa
open Go.ChangeShapes Go.WideShapes Go.ChangeAt Go.RowKit

theorem FnNop_true (v rv mv : Value) (t : Int) (l : List LCall) (x : LWorld) (w : World) (hl : RSl 4 (RCall w) w v l) (hx : RWorld w rv mv x) :
    Calls Try.prog 8 #[v, vi t, worldV rv mv x] w fun e w' => e = .returned (.bool true) ∧ Fr [] w w' := by
  by_cases h7 : fits3 l = true
  · by_cases h9 : fits9 x = true
    · by_cases ht : t < 0
      · exact FnN_C1 v rv mv t l x w hl hx h7 h9 ht
      by_cases hn : (l.length : Int) < t
      · exact FnN_C2 v rv mv t l x w hl hx h7 h9 ht hn
      by_cases hm : 200 < l.length
      · exact FnN_C3 v rv mv t l x w hl hx h7 h9 ht hn hm
      by_cases hs : smallB x = true
      · by_cases he : exprOk l = true
        · obtain ⟨n, rfl⟩ : ∃ n : Nat, t = (n : Int) := ⟨t.toNat, by omega⟩
          exact FnN_M v rv mv n l x w hl hx h7 h9 (by omega) (by omega) hs he
        · exact FnN_E v rv mv t l x w hl hx h7 h9 ht hn (by omega) hs (by simpa using he)
      · exact FnN_D v rv mv t l x w hl hx h7 h9 ht hn (by omega) (by simpa using hs)
    · exact FnN_B v rv mv t l x w hl hx h7 (by simpa using h9)
  · exact FnN_A v rv mv t l x w hl hx (by simpa using h7)

set_option maxRecDepth 100000 in
theorem FnNop_lifted (os : Os) (started : os.Started) (H : Type) (enc : TypeId × Value → H) :
    ReturnsInHanded {} Try.checked os 8 .any (Rows.fnNopSpec.pre6 enc Try.prog Try.f8 Rows.fnNopRow.domain false) (Rows.fnNopSpec.post enc Try.prog Try.f8 false true false false) := by
  refine returnsInHanded_of_change (C := Try.checked) own_knob started (by kernel_rfl) Try.func8
    (ChangeSpec.witness6 (enc := enc) (C := Try.checked) false ⟨#[], #[.slice none 0 0, .int .i64 0, .agg #[.slice none 0 0, .int .i64 0, .int .i64 0, .int .u64 0, .slice none 0 0]], []⟩ 8 (by kernel_rfl) (by kernel_rfl) (by kernel_rfl) (by kernel_rfl)) ?_
  intro W base args ds gs before hval0 hW hcnd _
  have hval : ∀ (j : Nat) t v, Try.f8.params[j]? = some t → args[j]? = some v → Value.okWide Try.prog W .any base t v := hval0
  have hW' := hW
  obtain ⟨p, q, hA0, hV, rfl, hfz, hnd⟩ := hW
  have hA : DataW.TrodAll enc Try.prog W 0 (fun _ => true) true Try.f8.params.toList args.toList ds p := hA0
  rw [Try.params8] at hA hval
  obtain ⟨v0, vs0, d0, ds0, p0, q0, hargs, rfl, rfl, h0, r0⟩ := trodAll_cons hA
  obtain ⟨v1, vs1, d1, ds1, p1, q1, rfl, rfl, rfl, h1, r1⟩ := trodAll_cons r0
  obtain ⟨v2, vs2, d2, ds2, p2, q2, rfl, rfl, rfl, h2, r2⟩ := trodAll_cons r1
  obtain ⟨rfl, rfl, rfl⟩ := trodAll_nil r2
  obtain rfl : args = #[v0, v1, v2] := by cases args; simp_all
  obtain ⟨rfl, rfl⟩ := trodVars_none hV
  obtain ⟨a0, len0, cap0, rfl⟩ := okWide_slice Try.underlying49 (hval 0 49 v0 rfl rfl)
  obtain ⟨a1, rfl, rfl, rfl, w1⟩ := open_int Try.underlying3 (hval 1 3 v1 rfl rfl) h1
  have k0 := h0
  have lt0 : ∀ x ∈ p0, x.block < W.heap.size := by obtain ⟨m, hm⟩ := k0; exact DataW.trod_lt m _ _ _ hm
  have k2 := h2
  have lt2 : ∀ x ∈ p2, x.block < W.heap.size := by obtain ⟨m, hm⟩ := k2; exact DataW.trod_lt m _ _ _ hm
  obtain ⟨l, hl⟩ : ∃ l : List LCall, RSl 4 (RCall W) W (.slice a0 len0 cap0) l := by
    obtain ⟨fuel, hf⟩ := h0
    exact arg_ops (by simpa [Value.cells] using hf)
  obtain ⟨rv, mv, x, rfl, hx⟩ := arg_world (hval 2 52 v2 rfl rfl) h2
  clear hA0 hval0
  refine (FnNop_true _ rv mv a1 l x W hl hx).mono fun e W' ⟨he, fr⟩ => ?_
  subst he
  have bel := fr.below
  exact ⟨_, rfl, _, _, _, [], _, [], hW', trodAll_mk1 (shut_bool Try.underlying4 _), (trodAll_cons_mk (Below.trod laid_out (by kernel_rfl) (of_decide_eq_true (by kernel_rfl)) k0 bel lt0) (trodAll_cons_mk (shut_int Try.underlying3 w1) (trodAll_cons_mk (Below.trod laid_out (by kernel_rfl) (of_decide_eq_true (by kernel_rfl)) k2 bel lt2) trodAll_mk0))), rfl, bel.frame _, fun h => by cases h⟩

theorem FnNop_proved : Rows.FnNopSaid :=
  OpenClaim.holds_of_wide 8 Try.f8 rfl rfl rfl rfl rfl rfl rfl ⟨rfl, rfl, rfl, rfl, rfl⟩ rfl rfl rfl rfl rfl (by kernel_rfl) Try.func8 (by kernel_rfl)
    (of_decide_eq_true (by kernel_rfl)) (by unfold Func.isWrapper; first | (rw [if_pos (by decide +kernel)]; kernel_rfl) | (rw [if_neg (by decide +kernel)]; exact ⟨rfl, rfl⟩))
    (fun os started H enc _ => FnNop_lifted os started H enc)

#print axioms FnNop_proved
end Go.Proofs.Ytahohmdfllgedaa
