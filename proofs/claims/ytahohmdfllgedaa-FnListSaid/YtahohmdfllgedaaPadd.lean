/- spec.padded. -/
import Derived.Test.YtahohmdfllgedaaSecL
import Derived.Test.YtahohmdfllgedaaCalls
namespace Go.Proofs.Ytahohmdfllgedaa
open Go.RowKit

set_option maxRecDepth 100000 in
set_option maxHeartbeats 4000000 in
theorem padded_any (base : Nat) (a0 : Option Addr) (c0 : Nat) (l : List UInt8) (w : World) (h : w.ownsRow base 5 1 (.slice a0 l.length c0) l.length (vbs l)) (hb : base ≤ w.heap.size) (hl : l.length ≤ 1073741824) :
    Calls Try.prog 49 #[.slice a0 l.length c0] w fun e w' => ∃ a c, e = .returned (.slice a (padL l).length c) ∧
      w'.ownsRow w.heap.size 5 1 (.slice a (padL l).length c) (padL l).length (vbs (padL l)) ∧ Fr (Value.slice a0 l.length c0).ownBlock.toList w w' := by
  have H := Lib.hid h
  have Hb := Lib.hid hb
  clear h hb
  obtain ⟨K, hK⟩ : ∃ K, padK l.length = K := ⟨_, rfl⟩
  have hK8 : K < 8 := by rw [← hK]; unfold padK; omega
  have HK := Lib.hid hK
  clear hK
  go_enter Try.func49, Try.ntmps49
  go_wp2_with fail
  go_loopw [0] (fun v wr => ∃ j : Nat, ∃ a c, j ≤ K ∧ v = .slice a (l.length + j) c ∧ wr.ownsRow base 5 1 (.slice a (l.length + j) c) (l.length + j) (vbs (l ++ List.replicate j 0)) ∧
      Fr (Value.slice a0 l.length c0).ownBlock.toList w wr ∧ (∀ g, (Value.slice a (l.length + j) c).ownBlock = some g → (Value.slice a0 l.length c0).ownBlock = some g ∨ w.heap.size ≤ g))
    (fun v _ => match v with | .slice _ n _ => l.length + K - n | _ => 0)
  case atStart => exact ⟨0, a0, c0, Nat.zero_le _, rfl, by simpa using H.out, Fr.refl _ _, fun g h => .inl h⟩
  case round =>
    obtain ⟨j, a, c, hj, rfl, hown, hfr, hg⟩ := hrel
    have Hown := Lib.hid hown
    have Hfr := Lib.hid hfr
    have Hg := Lib.hid hg
    clear hown hfr hg
    by_cases hlt : j < K
    case pos =>
      have ht : (((l.length : Int) + (j : Int) + 4) % 8 != 0) = true := by
        rw [bne_iff_ne]; have := HK.out; unfold padK at this; omega
      go_wp2_with (at_builtin; go_must (refine wpList_app sliceB _ rfl _ _ rfl base _ (l.length + j) (vbs (l ++ List.replicate j 0)) rfl (Hown.out.alloc _) (some ⟨wr.heap.size, 0, none⟩) 1 1 [Value.int .u8 0] rfl rfl (fun h => by cases h) (news_one rfl _ _) (by simp [Value.oneCell']) ?_ (by decide) ?_ ?_))
      · omega
      · have := Hfr.out.size; have := Hb.out; simp; omega
      intro a' c' w1 ho1 hf1 hg1
      have Ho1 := Lib.hid ho1
      have Hf1 := Lib.hid hf1
      have Hg1 := Lib.hid hg1
      clear ho1 hf1 hg1
      go_wp2_with fail
      refine ⟨⟨j + 1, a', c', by omega, rfl, ?_, ?_, ?_⟩, ?_⟩
      · have e : vbs (l ++ List.replicate (j + 1) 0) = List.map vb l ++ (List.replicate j (vb 0) ++ [Value.int .u8 0]) := by
          rw [List.replicate_succ', vbs, List.map_append, List.map_append, List.map_replicate]; rfl
        rw [e]; exact Ho1.out
      · refine (Hfr.out.alloc _).trans Hf1.out (fun i hi hlt => ?_)
        rcases Hg.out i (by simpa using hi) with h | h
        · simpa using h
        · omega
      · intro g h
        rcases Hg1.out g h with h | h
        · exact Hg.out g h
        · have := Hfr.out.size; (try simp at h); right; omega
      · simp; omega
    case neg =>
      obtain rfl : j = K := by omega
      have ht : (((l.length : Int) + (j : Int) + 4) % 8 != 0) = false := by
        rw [bne_eq_false_iff_eq]; have := HK.out; unfold padK at this; omega
      have e : padL l = leL (l.length + j) 4 ++ (l ++ List.replicate j 0) := by rw [padL, HK.out]
      have He := Lib.hid e
      have Hlen : Hid ((l ++ List.replicate j 0).length = l.length + j) := by show _ = _; simp
      have hlt64 : l.length + j < 18446744073709551616 := by omega
      have Hlt64 := Lib.hid hlt64
      clear e hlt hlt64
      go_wp2_with (first | (go_at_call 48; go_must (refine (Little_ints (l.length + j) 4 _ _ (by push_cast; rfl) (by rfl) Hlt64.out (by decide) _).mono ?_); rintro e w3 ⟨a3, c3, rfl, ho3, hf3⟩; have Ho3 := Lib.hid ho3; have Hf3 := Lib.hid hf3; clear ho3 hf3) | (at_builtin; go_must (refine wpList_app sliceB _ rfl _ _ rfl w.heap.size _ (leL (l.length + j) 4).length (vbs (leL (l.length + j) 4)) rfl (own_base Ho3.out Hfr.out.size) a (l.length + j) c (vbs (l ++ List.replicate j 0)) rfl (by simp) (own_news (own_fr Hown.out Hf3.out (by simp))).1 (own_news (own_fr Hown.out Hf3.out (by simp))).2 (vbs_one _) ?_ (by decide) ?_ ?_)))
      · rw [leL_length]; omega
      · exact Nat.le_trans Hfr.out.size Hf3.out.size
      intro a' c' w1 ho1 hf1 hg1
      have Ho1 := Lib.hid ho1
      have Hf1 := Lib.hid hf1
      clear ho1 hf1 hg1
      go_wp2_with fail
      go_ret
      have e2 : (padL l).length = (leL (l.length + j) 4).length + (l.length + j) := by rw [He.out, List.length_append, Hlen.out]
      refine ⟨a', c', by rw [e2]; rfl, ?_, ?_⟩
      · rw [e2, He.out, vbs_app, show vbs (l ++ List.replicate j 0) = List.map vb l ++ List.replicate j (vb 0) from by rw [vbs, List.map_append, List.map_replicate]]; exact Ho1.out
      · exact (Hfr.out.then Hf3.out).trans Hf1.out (fun i hi hlt => by simp at hi; have := own_ge Ho3.out hi; have := Hfr.out.size; omega)

end Go.Proofs.Ytahohmdfllgedaa
