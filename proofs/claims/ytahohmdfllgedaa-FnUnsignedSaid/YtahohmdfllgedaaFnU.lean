/- The walk of laws.FnUnsigned: whatever the input, it returns true. -/
import Derived.Test.YtahohmdfllgedaaPad
namespace Go.Proofs.Ytahohmdfllgedaa
open Go.RowKit

set_option maxRecDepth 100000 in
set_option maxHeartbeats 2000000 in
theorem FnUnsigned_walk (n : Nat) (hn : n < 18446744073709551616) (more : Int) (hm1 : -9223372036854775808 ≤ more) (hm2 : more ≤ 9223372036854775807) (a : Option Addr) (c : Nat) (lb : List UInt8) (w : World)
    (h : Sl w (.slice a lb.length c) (vbs lb)) :
    Calls Try.prog 3 #[.int .u64 (n : Int), .int .i64 more, .slice a lb.length c] w fun e w' => e = .returned (.bool true) ∧ Fr [] w w' := by
  have H := Lib.hid h
  have Hn := Lib.hid hn
  clear h hn
  by_cases h1 : lb.length ≤ 2147483647
  case neg =>
    have t1 : (2147483647 : Int) < (lb.length : Int) := by omega
    go_enter Try.func3, Try.ntmps3
    go_wp2_with fail
    go_ret
    exact ⟨rfl, Fr.refl _ _⟩
  case pos =>
    have hul := uleb_le10 Hn.out
    have hup := uleb_pos n
    by_cases h2 : more < 0
    · go_enter Try.func3, Try.ntmps3
      go_wp2_with (go_at_call 10; go_must (refine (Unsigned_any n Hn.out _).mono ?_))
      rintro e w1 ⟨a1, c1, rfl, ho1, hf1⟩
      have Hf1 := Lib.hid hf1
      clear ho1 hf1
      go_wp2_with (go_at_call 11; go_must (refine (works_any _).mono ?_))
      rintro e w2 ⟨rfl, hf2⟩
      have Hf2 := Lib.hid hf2
      clear hf2
      go_wp2
      go_ret
      exact ⟨rfl, Hf1.out.then Hf2.out⟩
    obtain ⟨m, rfl⟩ := Int.eq_ofNat_of_zero_le (show 0 ≤ more by omega)
    by_cases h3 : (10 : Int) - (uleb n).length < m
    · go_enter Try.func3, Try.ntmps3
      go_wp2_with (go_at_call 10; go_must (refine (Unsigned_any n Hn.out _).mono ?_))
      rintro e w1 ⟨a1, c1, rfl, ho1, hf1⟩
      have Hf1 := Lib.hid hf1
      clear ho1 hf1
      go_wp2_with (go_at_call 11; go_must (refine (works_any _).mono ?_))
      rintro e w2 ⟨rfl, hf2⟩
      have Hf2 := Lib.hid hf2
      clear hf2
      go_wp2
      go_ret
      exact ⟨rfl, Hf1.out.then Hf2.out⟩
    by_cases h4 : 100 < (lb.length : Int)
    · go_enter Try.func3, Try.ntmps3
      go_wp2_with (go_at_call 10; go_must (refine (Unsigned_any n Hn.out _).mono ?_))
      rintro e w1 ⟨a1, c1, rfl, ho1, hf1⟩
      have Hf1 := Lib.hid hf1
      clear ho1 hf1
      go_wp2_with (go_at_call 11; go_must (refine (works_any _).mono ?_))
      rintro e w2 ⟨rfl, hf2⟩
      have Hf2 := Lib.hid hf2
      clear hf2
      go_wp2
      go_ret
      exact ⟨rfl, Hf1.out.then Hf2.out⟩
    have hpl := padN_length 0 m (uleb n)
    have hpe := padN_ended 0 (by decide) m _ (uleb_ended n)
    have hpv := padN_uval m _ (uleb_ended n)
    rw [uval_uleb] at hpv
    have Hpe := Lib.hid hpe
    have Hpv := Lib.hid hpv
    have Hpl := Lib.hid hpl
    have Hup := Lib.hid hup
    clear hpe hpv hpl hup
    go_enter Try.func3, Try.ntmps3
    go_wp2_with (go_at_call 10; go_must (refine (Unsigned_any n Hn.out _).mono ?_))
    rintro e w1 ⟨a1, c1, rfl, ho1, hf1⟩
    have Hf1 := Lib.hid hf1
    have Ho1 := Lib.hid ho1
    clear ho1 hf1
    go_wp2_with (go_at_call 12; go_must (refine (Padded_any _ (uleb n) m false 0 _ (own_sl Ho1.out) Hup.out (by omega) (by omega) (.inl ⟨rfl, rfl⟩)).mono ?_))
    rintro e w2 ⟨a2, c2, rfl, ho2, hf2⟩
    have Ho2 := Lib.hid ho2
    have Hf2 := Lib.hid hf2
    clear ho2 hf2
    have hpd20 : (padN 0 m (uleb n)).length ≤ 10 := by have := Hpl.out; omega
    have hlb : lb.length ≤ 100 := by omega
    generalize padN 0 m (uleb n) = pd at *
    have s2 : Sl (w2.alloc (.cells #[] 5)) (.slice a2 pd.length c2) (vbs pd) := (own_sl Ho2.out).fr ((Fr.refl [] w2).alloc _) (by simp)
    obtain ⟨ao, cc, hv, hn1, hc1⟩ := sl_news s2
    obtain ⟨rfl, rfl⟩ : a2 = ao ∧ c2 = cc := by simpa using hv
    have Hn1 : Hid (a2 = none → pd.length = 0 ∧ c2 = 0) := by show a2 = none → pd.length = 0 ∧ c2 = 0; simpa using hn1
    have Hc1 := Lib.hid hc1
    clear hv hn1 hc1 s2
    go_wp2_with (at_builtin; go_must (refine wpList_app sliceB _ rfl _ _ rfl w2.heap.size _ 0 [] rfl (World.ownsRow_made w2 #[] 0 (Nat.le_refl _) (by simp) rfl) a2 pd.length c2 (vbs pd) rfl (by simp) Hn1.out Hc1.out (vbs_one pd) (by omega) (by decide) (by simp) ?_))
    intro a3 c3 w3 ho3 hf3 hg3
    have F3 : Hid (Fr [] w w3) := (((Hf1.out.then Hf2.out).alloc _).trans hf3 (fun i hi hlt => by
      simp [Value.ownBlock] at hi
      have := (Hf1.out.then Hf2.out).size
      omega))
    have Ho3 := Lib.hid ho3
    have F13 : Hid (Fr [] w1 w3) := ((Hf2.out.alloc _).trans hf3 (fun i hi hlt => by
      simp [Value.ownBlock] at hi
      have := Hf2.out.size
      omega))
    have s3 : Sl w3 (.slice a lb.length c) (vbs lb) := H.out.fr F3.out (by simp)
    obtain ⟨ao, cc, hv, hn1, hc1⟩ := sl_news s3
    obtain ⟨rfl, rfl⟩ : a = ao ∧ c = cc := by simpa using hv
    have Hn3 : Hid (a = none → lb.length = 0 ∧ c = 0) := by show a = none → lb.length = 0 ∧ c = 0; simpa using hn1
    have Hc3 := Lib.hid hc1
    have hsz3 := F3.out.size
    have hsz2 := (Hf1.out.then Hf2.out).size
    have hsz23 : w2.heap.size ≤ w3.heap.size := by
      have := (((Fr.refl [] w2).alloc _).trans hf3 (fun i hi hlt => by simp [Value.ownBlock] at hi; omega)).size
      exact this
    clear hv hn1 hc1 s3 ho3 hf3 hg3
    go_wp2_with (at_builtin; go_must (refine wpList_app sliceB _ rfl _ _ rfl w2.heap.size _ pd.length (vbs pd) rfl Ho3.out a lb.length c (vbs lb) rfl (by simp) Hn3.out Hc3.out (vbs_one lb) (by omega) (by decide) hsz23 ?_))
    intro a4 c4 w4 ho4 hf4 hg4
    have Hf34 := Lib.hid hf4
    have F4 : Hid (Fr [] w w4) := F3.out.app Ho3.out hsz2 hf4
    have S4 : Hid (Sl w4 (.slice a4 (pd.length + lb.length) c4) (vbs (pd ++ lb))) := by
      have := own_sl ho4
      rw [← List.map_append] at this
      exact this
    clear ho4 hf4 hg4 Hn3 Hc3 Hn1 Hc1
    go_wp2_with (go_at_call 13; go_must (refine (iDecU_any _ (pd ++ lb) pd lb _ S4.out (by simp; omega) rfl Hpe.out hpd20).mono ?_))
    rw [Hpv.out, Nat.mod_eq_of_lt (show n < M64 from Hn.out)]
    rintro e w5 ⟨rfl, hf5⟩
    have F5 : Hid (Fr [] w w5) := F4.out.then hf5
    have F15 : Hid (Fr [] w1 w5) := (F13.out.app Ho3.out Hf2.out.size Hf34.out).then hf5
    clear hf5
    go_wp2_with (go_at_call 15; go_must (refine (iEncU_any n Hn.out _).mono ?_))
    rintro e w6 ⟨a6, c6, rfl, ho6, hf6⟩
    have S6 : Hid (Sl w6 (.slice a6 (uleb n).length c6) (vbs (uleb n))) := own_sl ho6
    have S1 : Hid (Sl w6 (.slice a1 (uleb n).length c1) (vbs (uleb n))) := ((own_sl Ho1.out).fr F15.out (by simp)).fr hf6 (by simp)
    have F6 : Hid (Fr [] w w6) := F5.out.then hf6
    clear ho6 hf6
    have t1 : (uleb n == uleb n) = true := beq_self_eq_true _
    go_wp2_with (go_at_call 14; go_must (refine (bEqual_any _ _ (uleb n) (uleb n) _ S6.out S1.out).mono ?_))
    rw [t1]
    rintro e w7 ⟨rfl, rfl⟩
    go_wp2_with (go_at_call 11; go_must (refine (works_any _).mono ?_))
    rintro e w8 ⟨rfl, hf8⟩
    have F8 : Hid (Fr [] w w8) := F6.out.then hf8
    clear hf8
    go_wp2
    go_ret
    exact ⟨rfl, F8.out⟩
end Go.Proofs.Ytahohmdfllgedaa
