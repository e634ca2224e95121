/- The walk of laws.FnSigned: whatever the input, it returns true. -/
import Derived.Test.YtahohmdfllgedaaSimp
namespace Go.Proofs.Ytahohmdfllgedaa
open Go.RowKit

set_option maxRecDepth 100000 in
set_option maxHeartbeats 2000000 in
theorem FnSigned_walk (n : Int) (hn1 : -9223372036854775808 ≤ n) (hn2 : n ≤ 9223372036854775807) (more : Int) (hm1 : -9223372036854775808 ≤ more) (hm2 : more ≤ 9223372036854775807) (a : Option Addr) (c : Nat) (lb : List UInt8) (w : World)
    (h : Sl w (.slice a lb.length c) (vbs lb)) :
    Calls Try.prog 4 #[.int .i64 n, .int .i64 more, .slice a lb.length c] w fun e w' => e = .returned (.bool true) ∧ Fr [] w w' := by
  have H := Lib.hid h
  have Hn := Lib.hid (And.intro hn1 hn2)
  clear h hn1 hn2
  by_cases h1 : lb.length ≤ 2147483647
  case neg =>
    have t1 : (2147483647 : Int) < (lb.length : Int) := by omega
    go_enter Try.func4, Try.ntmps4
    go_wp2_with fail
    go_ret
    exact ⟨rfl, Fr.refl _ _⟩
  case pos =>
    have hul := sleb_le10 Hn.out.1 Hn.out.2
    have hup := sleb_pos n
    by_cases h2 : more < 0
    · go_enter Try.func4, Try.ntmps4
      go_wp2_with (go_at_call 16; go_must (refine (Signed_any n Hn.out.1 Hn.out.2 _).mono ?_))
      rintro e w1 ⟨a1, c1, rfl, ho1, hf1⟩
      have Hf1 := Lib.hid hf1
      clear ho1 hf1
      go_wp2_with (go_at_call 11; go_must (refine (works_any _).mono ?_))
      rintro e w2 ⟨rfl, hf2⟩
      have Hf2 := Lib.hid hf2
      clear hf2
      go_wp2
      go_ret
      exact ⟨rfl, Hf1.out.then Hf2.out⟩
    obtain ⟨m, rfl⟩ := Int.eq_ofNat_of_zero_le (show 0 ≤ more by omega)
    by_cases h3 : (10 : Int) - (sleb n).length < m
    · go_enter Try.func4, Try.ntmps4
      go_wp2_with (go_at_call 16; go_must (refine (Signed_any n Hn.out.1 Hn.out.2 _).mono ?_))
      rintro e w1 ⟨a1, c1, rfl, ho1, hf1⟩
      have Hf1 := Lib.hid hf1
      clear ho1 hf1
      go_wp2_with (go_at_call 11; go_must (refine (works_any _).mono ?_))
      rintro e w2 ⟨rfl, hf2⟩
      have Hf2 := Lib.hid hf2
      clear hf2
      go_wp2
      go_ret
      exact ⟨rfl, Hf1.out.then Hf2.out⟩
    by_cases h4 : 100 < (lb.length : Int)
    · go_enter Try.func4, Try.ntmps4
      go_wp2_with (go_at_call 16; go_must (refine (Signed_any n Hn.out.1 Hn.out.2 _).mono ?_))
      rintro e w1 ⟨a1, c1, rfl, ho1, hf1⟩
      have Hf1 := Lib.hid hf1
      clear ho1 hf1
      go_wp2_with (go_at_call 11; go_must (refine (works_any _).mono ?_))
      rintro e w2 ⟨rfl, hf2⟩
      have Hf2 := Lib.hid hf2
      clear hf2
      go_wp2
      go_ret
      exact ⟨rfl, Hf1.out.then Hf2.out⟩
    have hpl := padN_length (fillOf (sleb n)) m (sleb n)
    have hpe := padN_ended (fillOf (sleb n)) (fillOf_lt _) m _ (sleb_ended n)
    have hpv := padN_sval _ m _ (sleb_ended n) rfl
    rw [sval_sleb] at hpv
    have Hpe := Lib.hid hpe
    have Hpv := Lib.hid hpv
    have Hpl := Lib.hid hpl
    have Hup := Lib.hid hup
    clear hpe hpv hpl hup
    go_enter Try.func4, Try.ntmps4
    go_wp2_with (go_at_call 16; go_must (refine (Signed_any n Hn.out.1 Hn.out.2 _).mono ?_))
    rintro e w1 ⟨a1, c1, rfl, ho1, hf1⟩
    have Hf1 := Lib.hid hf1
    have Ho1 := Lib.hid ho1
    clear ho1 hf1
    go_wp2_with (go_at_call 12; go_must (refine (Padded_any _ (sleb n) m true (fillOf (sleb n)) _ (own_sl Ho1.out) Hup.out (by omega) (by omega) (fillOf_cases _)).mono ?_))
    rintro e w2 ⟨a2, c2, rfl, ho2, hf2⟩
    have Ho2 := Lib.hid ho2
    have Hf2 := Lib.hid hf2
    clear ho2 hf2
    have hpd20 : (padN (fillOf (sleb n)) m (sleb n)).length ≤ 10 := by have := Hpl.out; omega
    have hlb : lb.length ≤ 100 := by omega
    generalize padN (fillOf (sleb n)) m (sleb n) = pd at *
    have s2 : Sl (w2.alloc (.cells #[] 5)) (.slice a2 pd.length c2) (vbs pd) := (own_sl Ho2.out).fr ((Fr.refl [] w2).alloc _) (by simp)
    obtain ⟨ao, cc, hv, hn1, hc1⟩ := sl_news s2
    obtain ⟨rfl, rfl⟩ : a2 = ao ∧ c2 = cc := by simpa using hv
    have Hn1 : Hid (a2 = none → pd.length = 0 ∧ c2 = 0) := by show a2 = none → pd.length = 0 ∧ c2 = 0; simpa using hn1
    have Hc1 := Lib.hid hc1
    clear hv hn1 hc1 s2
    go_wp2_with (at_builtin; go_must (refine wpList_app sliceB _ rfl _ _ rfl w2.heap.size _ 0 [] rfl (World.ownsRow_made w2 #[] 0 (Nat.le_refl _) (by simp) rfl) a2 pd.length c2 (vbs pd) rfl (by simp) Hn1.out Hc1.out (vbs_one pd) (by omega) (by decide) (by simp) ?_))
    intro a3 c3 w3 ho3 hf3 hg3
    have F3 : Hid (Fr [] w w3) := (((Hf1.out.then Hf2.out).alloc _).trans hf3 (fun i hi hlt => by
      simp [Value.ownBlock] at hi
      have := (Hf1.out.then Hf2.out).size
      omega))
    have Ho3 := Lib.hid ho3
    have F13 : Hid (Fr [] w1 w3) := ((Hf2.out.alloc _).trans hf3 (fun i hi hlt => by
      simp [Value.ownBlock] at hi
      have := Hf2.out.size
      omega))
    have s3 : Sl w3 (.slice a lb.length c) (vbs lb) := H.out.fr F3.out (by simp)
    obtain ⟨ao, cc, hv, hn1, hc1⟩ := sl_news s3
    obtain ⟨rfl, rfl⟩ : a = ao ∧ c = cc := by simpa using hv
    have Hn3 : Hid (a = none → lb.length = 0 ∧ c = 0) := by show a = none → lb.length = 0 ∧ c = 0; simpa using hn1
    have Hc3 := Lib.hid hc1
    have hsz3 := F3.out.size
    have hsz2 := (Hf1.out.then Hf2.out).size
    have hsz23 : w2.heap.size ≤ w3.heap.size := by
      have := (((Fr.refl [] w2).alloc _).trans hf3 (fun i hi hlt => by simp [Value.ownBlock] at hi; omega)).size
      exact this
    clear hv hn1 hc1 s3 ho3 hf3 hg3
    go_wp2_with (at_builtin; go_must (refine wpList_app sliceB _ rfl _ _ rfl w2.heap.size _ pd.length (vbs pd) rfl Ho3.out a lb.length c (vbs lb) rfl (by simp) Hn3.out Hc3.out (vbs_one lb) (by omega) (by decide) hsz23 ?_))
    intro a4 c4 w4 ho4 hf4 hg4
    have Hf34 := Lib.hid hf4
    have F4 : Hid (Fr [] w w4) := F3.out.app Ho3.out hsz2 hf4
    have S4 : Hid (Sl w4 (.slice a4 (pd.length + lb.length) c4) (vbs (pd ++ lb))) := by
      have := own_sl ho4
      rw [← List.map_append] at this
      exact this
    clear ho4 hf4 hg4 Hn3 Hc3 Hn1 Hc1
    go_wp2_with (go_at_call 17; go_must (refine (iDecS_any _ (pd ++ lb) pd lb _ S4.out (by simp; omega) rfl Hpe.out hpd20).mono ?_))
    rw [Hpv.out, wrap64_id Hn.out.1 Hn.out.2]
    rintro e w5 ⟨rfl, hf5⟩
    have F5 : Hid (Fr [] w w5) := F4.out.then hf5
    have F15 : Hid (Fr [] w1 w5) := (F13.out.app Ho3.out Hf2.out.size Hf34.out).then hf5
    clear hf5
    go_wp2_with (go_at_call 18; go_must (refine (iEncS_any n Hn.out.1 Hn.out.2 _).mono ?_))
    rintro e w6 ⟨a6, c6, rfl, ho6, hf6⟩
    have S6 : Hid (Sl w6 (.slice a6 (sleb n).length c6) (vbs (sleb n))) := own_sl ho6
    have S1 : Hid (Sl w6 (.slice a1 (sleb n).length c1) (vbs (sleb n))) := ((own_sl Ho1.out).fr F15.out (by simp)).fr hf6 (by simp)
    have F6 : Hid (Fr [] w w6) := F5.out.then hf6
    clear ho6 hf6
    have t1 : (sleb n == sleb n) = true := beq_self_eq_true _
    go_wp2_with (go_at_call 14; go_must (refine (bEqual_any _ _ (sleb n) (sleb n) _ S6.out S1.out).mono ?_))
    rw [t1]
    rintro e w7 ⟨rfl, rfl⟩
    go_wp2_with (go_at_call 11; go_must (refine (works_any _).mono ?_))
    rintro e w8 ⟨rfl, hf8⟩
    have F8 : Hid (Fr [] w w8) := F6.out.then hf8
    clear hf8
    go_wp2
    go_ret
    exact ⟨rfl, F8.out⟩
end Go.Proofs.Ytahohmdfllgedaa
