/- What the calls that write and read numbers of variable length do: spec.Unsigned, spec.Padded, leb128.EncodeUnsigned, leb128.DecodeUnsigned. -/
import Derived.Test.YtahohmdfllgedaaBuf
import Derived.Test.YtahohmdfllgedaaLeb
namespace Go.Proofs.Ytahohmdfllgedaa
open Go.RowKit

/-- The answer of a function that makes bytes: v, which the program owns and which reads l. -/
def Made (l : List UInt8) (w : World) (e : Ending) (w' : World) : Prop :=
  ∃ a c, e = .returned (.slice a l.length c) ∧ w'.ownsRow w.heap.size 5 1 (.slice a l.length c) l.length (vbs l) ∧ Fr [] w w'

set_option maxRecDepth 100000 in
set_option maxHeartbeats 1000000 in
theorem Unsigned_any (n : Nat) (hn : n < 18446744073709551616) (w : World) :
    Calls Try.prog 10 #[.int .u64 (n : Int)] w (Made (uleb n) w) := by
  have Hn := Lib.hid hn
  clear hn
  go_enter Try.func10, Try.ntmps10
  go_wp2_with fail
  go_loopw [0, 3] (fun x v wr => ∃ m : Nat, ∃ l : List UInt8, ∃ a c, m < 18446744073709551616 ∧ x = .int .u64 (m : Int) ∧ v = .slice a l.length c ∧ l ++ uleb m = uleb n ∧
      wr.ownsRow w.heap.size 5 1 (.slice a l.length c) l.length (vbs l) ∧ Fr [] w wr) (fun x _ _ => (intOf x).toNat)
  case atStart => exact ⟨n, [], none, 0, Hn.out, rfl, rfl, rfl, World.ownsRow_nil _ _ _ _, Fr.refl _ _⟩
  case round =>
    obtain ⟨m, l, a, c, hm, rfl, rfl, hu, hown, hfr⟩ := hrel
    have Hu := Lib.hid hu
    have Hm := Lib.hid hm
    have Hown := Lib.hid hown
    have Hfr := Lib.hid hfr
    clear hu hown hfr hm
    by_cases hb : 128 ≤ m
    · have hx : bits .or .u8 ((m : Int) % 256) 128 = (((UInt8.ofNat (m % 128 + 128)).toNat : Nat) : Int) := by
        rw [or128_u8 _ (by omega) (by omega), ofNat_toNat (by omega)]; omega
      generalize hy : UInt8.ofNat (m % 128 + 128) = y at hx
      have Hy := Lib.hid hy
      clear hy
      have hlen : Hid (l.length ≤ 10) := by
        have h1 := uleb_le10 Hn.out; have h2 := congrArg List.length Hu.out; simp at h2; show _ ≤ _; omega
      go_wp2_with (at_builtin; go_must (refine wpList_app sliceB _ rfl _ _ rfl w.heap.size _ l.length (vbs l) rfl (Hown.out.alloc _) (some ⟨wr.heap.size, 0, none⟩) 1 1 [vb y] rfl rfl (fun h => by cases h) (news_one rfl _ _) (vbs_one [_]) ?_ (by decide) ?_ ?_))
      · have := hlen.out; omega
      · have := Hfr.out.size; simp; omega
      intro a' c' w1 ho1 hf1 hg1
      have Ho1 := Lib.hid ho1
      have Hf1 := Lib.hid hf1
      have Hg1 := Lib.hid hg1
      clear ho1 hf1 hg1
      go_wp2
      refine ⟨⟨m / 128, l ++ [y], a', c', ?_, ?_, by simp, ?_, ?_, ?_⟩, ?_⟩
      · have := Hm.out; omega
      · rw [Int.natCast_ediv]; rfl
      · rw [← Hu.out, uleb_big (n := m) (by omega), Hy.out]; simp
      · simpa using Ho1.out
      · exact (Hfr.out.alloc _).app Hown.out (Nat.le_refl _) Hf1.out
      · simp [intOf]; omega
    · obtain ⟨y, rfl⟩ : ∃ y : UInt8, m = y.toNat := ⟨UInt8.ofNat m, (ofNat_toNat (by omega)).symm⟩
      have hlen : Hid (l.length ≤ 10) := by
        have h1 := uleb_le10 Hn.out; have h2 := congrArg List.length Hu.out; simp at h2; show _ ≤ _; omega
      go_wp2_with (at_builtin; go_must (refine wpList_app sliceB _ rfl _ _ rfl w.heap.size _ l.length (vbs l) rfl (Hown.out.alloc _) (some ⟨wr.heap.size, 0, none⟩) 1 1 [vb y] rfl rfl (fun h => by cases h) (news_one rfl _ _) (vbs_one [_]) ?_ (by decide) ?_ ?_))
      · have := hlen.out; omega
      · have := Hfr.out.size; simp; omega
      intro a' c' w1 ho1 hf1 hg1
      have Ho1 := Lib.hid ho1
      have Hf1 := Lib.hid hf1
      clear ho1 hf1 hg1
      go_wp2
      go_ret
      have e : uleb n = l ++ [y] := by rw [← Hu.out, uleb_small (by omega)]; simp
      refine ⟨a', c', ?_, ?_, ?_⟩
      · rw [e]; simp
      · rw [e]; simpa using Ho1.out
      · exact (Hfr.out.alloc _).app Hown.out (Nat.le_refl _) Hf1.out

/-! ### leb128.EncodeUnsigned -/
set_option maxRecDepth 100000 in
set_option maxHeartbeats 1000000 in
theorem lEncU_any (n : Nat) (hn : n < 18446744073709551616) (base b : Nat) (v : Value) (l0 : List UInt8) (rd : Bool) (w : World) (h : BufW base w b v l0 rd) (hl0 : l0.length ≤ 1048576) (hbase : base ≤ w.heap.size) :
    Calls Try.prog 36 #[.iface 75 (.pointer (some ⟨b, 0, none⟩)), .int .u64 (n : Int)] w fun e w' =>
      e = .returned (.tuple #[]) ∧ ∃ v', BufW base w' b v' (l0 ++ uleb n) false ∧ Fr (b :: v.ownBlock.toList) w w' := by
  have hm : ∀ (b : Nat) (w : World), (method 337 75 (.pointer (some ⟨b, 0, none⟩)) "WriteByte").run Try.prog w = .ok (147, .pointer (some ⟨b, 0, none⟩)) w := fun _ _ => by kernel_rfl
  have hblt := lt_heap h.1
  have Hn := Lib.hid hn
  have H := Lib.hid h
  clear hn h
  go_enter Try.func36, Try.ntmps36
  go_wp2_with fail
  go_loopw [1] (fun x wr => ∃ m : Nat, ∃ l : List UInt8, ∃ v' rd', m < 18446744073709551616 ∧ x = .int .u64 (m : Int) ∧ l ++ uleb m = l0 ++ uleb n ∧
      BufW base wr b v' l rd' ∧ Fr (b :: v.ownBlock.toList) w wr ∧ (∀ g, v'.ownBlock = some g → v.ownBlock = some g ∨ w.heap.size ≤ g)) (fun x _ => (intOf x).toNat)
  case atStart => exact ⟨n, l0, v, rd, Hn.out, rfl, rfl, H.out, Fr.refl _ _, fun g hg => .inl hg⟩
  case round =>
    obtain ⟨m, l, v', rd', hm1, rfl, hu, hbuf, hfr, hvb⟩ := hrel
    have Hu := Lib.hid hu
    have Hm := Lib.hid hm1
    have Hbuf := Lib.hid hbuf
    have Hfr := Lib.hid hfr
    have Hvb := Lib.hid hvb
    clear hu hbuf hfr hm1 hvb
    have hlen : Hid (l.length ≤ 1048600) := by
      have h1 := uleb_le10 Hn.out; have h2 := congrArg List.length Hu.out; simp at h2; show _ ≤ _; omega
    have hsz : Hid (base ≤ wr.heap.size) := Nat.le_trans hbase Hfr.out.size
    by_cases hb : 128 ≤ m
    · have hx := enc_byte m Hm.out
      generalize hy : UInt8.ofNat (m % 128 + 128) = y at hx
      have Hy := Lib.hid hy
      clear hy
      have t1 : ((m : Int) / 128 != 0) = true := by rw [bne_iff_ne]; omega
      have t2 : ((m : Int) / 128 == 0) = false := by rw [beq_eq_false_iff_ne]; omega
      go_wp2_with (go_at_call 147; refine (BufWriteByte_any base b v' l rd' y _ Hbuf.out (by have := hlen.out; omega) hsz.out).mono ?_; rintro e w1 ⟨rfl, v2, hbuf2, hf2, hg2⟩)
      have Hbuf2 := Lib.hid hbuf2
      have Hf2 := Lib.hid hf2
      have Hg2 := Lib.hid hg2
      clear hbuf2 hf2 hg2
      go_wp2
      refine ⟨⟨m / 128, l ++ [y], v2, false, ?_, ?_, ?_, Hbuf2.out, ?_, ?_⟩, ?_⟩
      · have := Hm.out; omega
      · rw [Int.natCast_ediv]; rfl
      · rw [← Hu.out, uleb_big (n := m) (by omega), Hy.out]; simp
      · refine Hfr.out.trans Hf2.out (fun i hi hlt => ?_)
        simp at hi ⊢
        rcases hi with hi | hi
        · exact .inl hi
        · rcases Hvb.out i hi with h | h
          · exact .inr h
          · omega
      · intro g hg
        rcases Hg2.out g hg with h | h
        · exact Hvb.out g h
        · have := Hfr.out.size; right; omega
      · simp [intOf]; omega
    · have hx := enc_last m (by omega)
      generalize hy : UInt8.ofNat m = y at hx
      have Hy := Lib.hid hy
      clear hy
      have t1 : ((m : Int) / 128 != 0) = false := by rw [bne_eq_false_iff_eq]; omega
      have t2 : ((m : Int) / 128 == 0) = true := by rw [beq_iff_eq]; omega
      go_wp2_with (go_at_call 147; refine (BufWriteByte_any base b v' l rd' y _ Hbuf.out (by have := hlen.out; omega) hsz.out).mono ?_; rintro e w1 ⟨rfl, v2, hbuf2, hf2, hg2⟩)
      have Hbuf2 := Lib.hid hbuf2
      have Hf2 := Lib.hid hf2
      clear hbuf2 hf2 hg2
      go_wp2
      go_end0
      refine ⟨rfl, v2, ?_, ?_⟩
      · rw [← Hu.out, uleb_small (n := m) (by omega), Hy.out]; exact Hbuf2.out
      · refine Hfr.out.trans Hf2.out (fun i hi hlt => ?_)
        simp at hi ⊢
        rcases hi with hi | hi
        · exact .inl hi
        · rcases Hvb.out i hi with h | h
          · exact .inr h
          · omega

end Go.Proofs.Ytahohmdfllgedaa
