/- What spec.Signed, leb128.EncodeSigned and leb128.DecodeSigned do. -/
import Derived.Test.YtahohmdfllgedaaPad
import Derived.Test.YtahohmdfllgedaaSleb
namespace Go.Proofs.Ytahohmdfllgedaa
open Go.RowKit

set_option maxRecDepth 100000 in
set_option maxHeartbeats 1000000 in
theorem Signed_any (n : Int) (h1 : -9223372036854775808 ≤ n) (h2 : n ≤ 9223372036854775807) (w : World) :
    Calls Try.prog 16 #[.int .i64 n] w (Made (sleb n) w) := by
  have Hn := Lib.hid (And.intro h1 h2)
  clear h1 h2
  go_enter Try.func16, Try.ntmps16
  go_wp2_with fail
  go_loopw [0, 3] (fun x v wr => ∃ m : Int, ∃ l : List UInt8, ∃ a c, (-9223372036854775808 ≤ m ∧ m ≤ 9223372036854775807) ∧ x = .int .i64 m ∧ v = .slice a l.length c ∧ l ++ sleb m = sleb n ∧
      wr.ownsRow w.heap.size 5 1 (.slice a l.length c) l.length (vbs l) ∧ Fr [] w wr) (fun x _ _ => (intOf x).natAbs)
  case atStart => exact ⟨n, [], none, 0, Hn.out, rfl, rfl, rfl, World.ownsRow_nil _ _ _ _, Fr.refl _ _⟩
  case round =>
    obtain ⟨m, l, a, c, hm, rfl, rfl, hu, hown, hfr⟩ := hrel
    have hlen : Hid (l.length ≤ 10) := by
      have h1 := sleb_le10 Hn.out.1 Hn.out.2; have h2 := congrArg List.length hu; simp at h2; show _ ≤ _; omega
    have Hu := Lib.hid hu
    have Hm := Lib.hid hm
    have Hown := Lib.hid hown
    have Hfr := Lib.hid hfr
    clear hu hown hfr hm
    have hx : bits .or .u8 (m % 256) 128 = (((UInt8.ofNat ((m % 128).toNat + 128)).toNat : Nat) : Int) := by
      rw [or128_u8 _ (by omega) (by omega), ofNat_toNat (by omega)]; omega
    by_cases hb : m < -64
    · generalize hy : UInt8.ofNat ((m % 128).toNat + 128) = y at hx
      have Hy := Lib.hid hy
      clear hy
      go_wp2_with (at_builtin; go_must (refine wpList_app sliceB _ rfl _ _ rfl w.heap.size _ l.length (vbs l) rfl (Hown.out.alloc _) (some ⟨wr.heap.size, 0, none⟩) 1 1 [vb y] rfl rfl (fun h => by cases h) (news_one rfl _ _) (vbs_one [_]) ?_ (by decide) ?_ ?_))
      · have := hlen.out; omega
      · have := Hfr.out.size; simp; omega
      intro a' c' w1 ho1 hf1 hg1
      have Ho1 := Lib.hid ho1
      have Hf1 := Lib.hid hf1
      clear ho1 hf1 hg1
      go_wp2
      refine ⟨⟨m / 128, l ++ [y], a', c', ?_, rfl, by simp, ?_, ?_, ?_⟩, ?_⟩
      · have := Hm.out; omega
      · rw [← Hu.out, sleb_big (n := m) (by omega), Hy.out]; simp
      · simpa using Ho1.out
      · exact (Hfr.out.alloc _).app Hown.out (Nat.le_refl _) Hf1.out
      · simp [intOf]; omega
    by_cases hb2 : 63 < m
    · generalize hy : UInt8.ofNat ((m % 128).toNat + 128) = y at hx
      have Hy := Lib.hid hy
      clear hy
      go_wp2_with (at_builtin; go_must (refine wpList_app sliceB _ rfl _ _ rfl w.heap.size _ l.length (vbs l) rfl (Hown.out.alloc _) (some ⟨wr.heap.size, 0, none⟩) 1 1 [vb y] rfl rfl (fun h => by cases h) (news_one rfl _ _) (vbs_one [_]) ?_ (by decide) ?_ ?_))
      · have := hlen.out; omega
      · have := Hfr.out.size; simp; omega
      intro a' c' w1 ho1 hf1 hg1
      have Ho1 := Lib.hid ho1
      have Hf1 := Lib.hid hf1
      clear ho1 hf1 hg1
      go_wp2
      refine ⟨⟨m / 128, l ++ [y], a', c', ?_, rfl, by simp, ?_, ?_, ?_⟩, ?_⟩
      · have := Hm.out; omega
      · rw [← Hu.out, sleb_big (n := m) (by omega), Hy.out]; simp
      · simpa using Ho1.out
      · exact (Hfr.out.alloc _).app Hown.out (Nat.le_refl _) Hf1.out
      · simp [intOf]; omega
    · clear hx
      have hx : bits .and .u8 (m % 256) 127 = (((UInt8.ofNat (m % 128).toNat).toNat : Nat) : Int) := by
        rw [ofNat_toNat (by omega)]
        obtain ⟨k, hk⟩ := Int.eq_ofNat_of_zero_le (show 0 ≤ m % 256 by omega)
        rw [hk]
        have := u8_and_nat k 127 (by omega) (by decide)
        rw [nat_mask7] at this
        exact this.trans (by omega)
      generalize hy : UInt8.ofNat (m % 128).toNat = y at hx
      have Hy := Lib.hid hy
      clear hy
      go_wp2_with (at_builtin; go_must (refine wpList_app sliceB _ rfl _ _ rfl w.heap.size _ l.length (vbs l) rfl (Hown.out.alloc _) (some ⟨wr.heap.size, 0, none⟩) 1 1 [vb y] rfl rfl (fun h => by cases h) (news_one rfl _ _) (vbs_one [_]) ?_ (by decide) ?_ ?_))
      · have := hlen.out; omega
      · have := Hfr.out.size; simp; omega
      intro a' c' w1 ho1 hf1 hg1
      have Ho1 := Lib.hid ho1
      have Hf1 := Lib.hid hf1
      clear ho1 hf1 hg1
      go_wp2
      go_ret
      have e : sleb n = l ++ [y] := by rw [← Hu.out, ← Hy.out, sleb_small (n := m) (by omega)]
      refine ⟨a', c', ?_, ?_, ?_⟩
      · rw [e]; simp
      · rw [e]; simpa using Ho1.out
      · exact (Hfr.out.alloc _).app Hown.out (Nat.le_refl _) Hf1.out

/-! ### leb128.EncodeSigned -/
set_option maxRecDepth 100000 in
set_option maxHeartbeats 1000000 in
theorem lEncS_any (n : Int) (h1 : -9223372036854775808 ≤ n) (h2 : n ≤ 9223372036854775807) (base b : Nat) (v : Value) (l0 : List UInt8) (rd : Bool) (w : World) (h : BufW base w b v l0 rd) (hl0 : l0.length ≤ 1048576) (hbase : base ≤ w.heap.size) :
    Calls Try.prog 40 #[.iface 75 (.pointer (some ⟨b, 0, none⟩)), .int .i64 n] w fun e w' =>
      e = .returned (.tuple #[]) ∧ ∃ v', BufW base w' b v' (l0 ++ sleb n) false ∧ Fr (b :: v.ownBlock.toList) w w' := by
  have hm : ∀ (b : Nat) (w : World), (method 337 75 (.pointer (some ⟨b, 0, none⟩)) "WriteByte").run Try.prog w = .ok (147, .pointer (some ⟨b, 0, none⟩)) w := fun _ _ => by kernel_rfl
  have hblt := lt_heap h.1
  have Hn := Lib.hid (And.intro h1 h2)
  have H := Lib.hid h
  clear h1 h2 h
  go_enter Try.func40, Try.ntmps40
  go_wp2_with fail
  go_loopw [1] (fun x wr => ∃ m : Int, ∃ l : List UInt8, ∃ v' rd', (-9223372036854775808 ≤ m ∧ m ≤ 9223372036854775807) ∧ x = .int .i64 m ∧ l ++ sleb m = l0 ++ sleb n ∧
      BufW base wr b v' l rd' ∧ Fr (b :: v.ownBlock.toList) w wr ∧ (∀ g, v'.ownBlock = some g → v.ownBlock = some g ∨ w.heap.size ≤ g)) (fun x _ => (intOf x).natAbs)
  case atStart => exact ⟨n, l0, v, rd, Hn.out, rfl, rfl, H.out, Fr.refl _ _, fun g hg => .inl hg⟩
  case round =>
    obtain ⟨m, l, v', rd', hm1, rfl, hu, hbuf, hfr, hvb⟩ := hrel
    have Hu := Lib.hid hu
    have Hm := Lib.hid hm1
    have Hbuf := Lib.hid hbuf
    have Hfr := Lib.hid hfr
    have Hvb := Lib.hid hvb
    clear hu hbuf hfr hm1 hvb
    have hlen : Hid (l.length ≤ 1048600) := by
      have h1 := sleb_le10 Hn.out.1 Hn.out.2; have h2 := congrArg List.length Hu.out; simp at h2; show _ ≤ _; omega
    have hsz : Hid (base ≤ wr.heap.size) := Nat.le_trans hbase Hfr.out.size
    have hx := senc_byte m
    have hyn0 : (UInt8.ofNat (m % 128).toNat).toNat = (m % 128).toNat := ofNat_toNat (by omega)
    have Hhi : Hid (hi (UInt8.ofNat (m % 128).toNat) = UInt8.ofNat ((m % 128).toNat + 128)) := by
      show _ = _
      unfold hi; rw [hyn0, Nat.mod_eq_of_lt (by omega)]
    have hor := or_hi (UInt8.ofNat (m % 128).toNat)
    generalize hy : UInt8.ofNat (m % 128).toNat = y at *
    have Hy := Lib.hid hy
    have hyn : (y.toNat : Int) = m % 128 := by rw [hyn0]; omega
    clear hy hyn0
    by_cases hA : 0 ≤ m ∧ m ≤ 63
    · obtain ⟨hA1, hA2⟩ := hA
      have t1 : (m / 128 == 0) = true := by rw [beq_iff_eq]; omega
      have t2 : (m / 128 == -1) = false := by rw [beq_eq_false_iff_ne]; omega
      have t3 : (bits .and .u8 ((y.toNat : Nat) : Int) 64 == 0) = true := by rw [bit6]; rw [beq_iff_eq]; omega
      have t4 : (bits .and .u8 ((y.toNat : Nat) : Int) 64 != 0) = false := by rw [bit6]; rw [bne_eq_false_iff_eq]; omega
      clear hyn
      clear hor
      go_wp2_with (go_at_call 147; go_must (refine (BufWriteByte_any base b v' l rd' y _ Hbuf.out (by have := hlen.out; omega) hsz.out).mono ?_))
      rintro e w1 ⟨rfl, v2, hbuf2, hf2, hg2⟩
      have Hbuf2 := Lib.hid hbuf2
      have Hf2 := Lib.hid hf2
      clear hbuf2 hf2 hg2
      go_wp2
      go_end0
      refine ⟨rfl, v2, ?_, ?_⟩
      · rw [← Hu.out, sleb_small (n := m) (by omega), Hy.out]; exact Hbuf2.out
      · refine Hfr.out.trans Hf2.out (fun i hi hlt => ?_)
        simp at hi ⊢
        rcases hi with hi | hi
        · exact .inl hi
        · rcases Hvb.out i hi with h | h
          · exact .inr h
          · omega
    by_cases hC : -64 ≤ m ∧ m < 0
    · obtain ⟨hC1, hC2⟩ := hC
      have t1 : (m / 128 == 0) = false := by rw [beq_eq_false_iff_ne]; omega
      have t2 : (m / 128 == -1) = true := by rw [beq_iff_eq]; omega
      have t3 : (bits .and .u8 ((y.toNat : Nat) : Int) 64 == 0) = false := by rw [bit6]; rw [beq_eq_false_iff_ne]; omega
      have t4 : (bits .and .u8 ((y.toNat : Nat) : Int) 64 != 0) = true := by rw [bit6]; rw [bne_iff_ne]; omega
      clear hyn
      clear hor
      go_wp2_with (go_at_call 147; go_must (refine (BufWriteByte_any base b v' l rd' y _ Hbuf.out (by have := hlen.out; omega) hsz.out).mono ?_))
      rintro e w1 ⟨rfl, v2, hbuf2, hf2, hg2⟩
      have Hbuf2 := Lib.hid hbuf2
      have Hf2 := Lib.hid hf2
      clear hbuf2 hf2 hg2
      go_wp2
      go_end0
      refine ⟨rfl, v2, ?_, ?_⟩
      · rw [← Hu.out, sleb_small (n := m) (by omega), Hy.out]; exact Hbuf2.out
      · refine Hfr.out.trans Hf2.out (fun i hi hlt => ?_)
        simp at hi ⊢
        rcases hi with hi | hi
        · exact .inl hi
        · rcases Hvb.out i hi with h | h
          · exact .inr h
          · omega
    by_cases hB : 64 ≤ m ∧ m < 128
    · obtain ⟨hB1, hB2⟩ := hB
      have t1 : (m / 128 == 0) = true := by rw [beq_iff_eq]; omega
      have t2 : (m / 128 == -1) = false := by rw [beq_eq_false_iff_ne]; omega
      have t3 : (bits .and .u8 ((y.toNat : Nat) : Int) 64 == 0) = false := by rw [bit6]; rw [beq_eq_false_iff_ne]; omega
      have t4 : (bits .and .u8 ((y.toNat : Nat) : Int) 64 != 0) = true := by rw [bit6]; rw [bne_iff_ne]; omega
      clear hyn
      generalize hz : hi y = z at *
      have Hz := Lib.hid hz
      clear hz
      go_wp2_with (go_at_call 147; go_must (refine (BufWriteByte_any base b v' l rd' z _ Hbuf.out (by have := hlen.out; omega) hsz.out).mono ?_))
      rintro e w1 ⟨rfl, v2, hbuf2, hf2, hg2⟩
      have Hbuf2 := Lib.hid hbuf2
      have Hf2 := Lib.hid hf2
      have Hg2 := Lib.hid hg2
      clear hbuf2 hf2 hg2
      go_wp2
      refine ⟨⟨m / 128, l ++ [z], v2, false, ?_, rfl, ?_, Hbuf2.out, ?_, ?_⟩, ?_⟩
      · have := Hm.out; omega
      · rw [← Hu.out, sleb_big (n := m) (by omega), Hhi.out]; simp
      · refine Hfr.out.trans Hf2.out (fun i hi hlt => ?_)
        simp at hi ⊢
        rcases hi with hi | hi
        · exact .inl hi
        · rcases Hvb.out i hi with h | h
          · exact .inr h
          · omega
      · intro g hg
        rcases Hg2.out g hg with h | h
        · exact Hvb.out g h
        · have := Hfr.out.size; right; omega
      · simp [intOf]; omega
    by_cases hD : -128 ≤ m ∧ m < -64
    · obtain ⟨hD1, hD2⟩ := hD
      have t1 : (m / 128 == 0) = false := by rw [beq_eq_false_iff_ne]; omega
      have t2 : (m / 128 == -1) = true := by rw [beq_iff_eq]; omega
      have t3 : (bits .and .u8 ((y.toNat : Nat) : Int) 64 == 0) = true := by rw [bit6]; rw [beq_iff_eq]; omega
      have t4 : (bits .and .u8 ((y.toNat : Nat) : Int) 64 != 0) = false := by rw [bit6]; rw [bne_eq_false_iff_eq]; omega
      clear hyn
      generalize hz : hi y = z at *
      have Hz := Lib.hid hz
      clear hz
      go_wp2_with (go_at_call 147; go_must (refine (BufWriteByte_any base b v' l rd' z _ Hbuf.out (by have := hlen.out; omega) hsz.out).mono ?_))
      rintro e w1 ⟨rfl, v2, hbuf2, hf2, hg2⟩
      have Hbuf2 := Lib.hid hbuf2
      have Hf2 := Lib.hid hf2
      have Hg2 := Lib.hid hg2
      clear hbuf2 hf2 hg2
      go_wp2
      refine ⟨⟨m / 128, l ++ [z], v2, false, ?_, rfl, ?_, Hbuf2.out, ?_, ?_⟩, ?_⟩
      · have := Hm.out; omega
      · rw [← Hu.out, sleb_big (n := m) (by omega), Hhi.out]; simp
      · refine Hfr.out.trans Hf2.out (fun i hi hlt => ?_)
        simp at hi ⊢
        rcases hi with hi | hi
        · exact .inl hi
        · rcases Hvb.out i hi with h | h
          · exact .inr h
          · omega
      · intro g hg
        rcases Hg2.out g hg with h | h
        · exact Hvb.out g h
        · have := Hfr.out.size; right; omega
      · simp [intOf]; omega
    · have hE : m < -128 ∨ 128 ≤ m := by omega
      have t1 : (m / 128 == 0) = false := by rw [beq_eq_false_iff_ne]; omega
      have t2 : (m / 128 == -1) = false := by rw [beq_eq_false_iff_ne]; omega
      clear hyn hA hB hC hD
      generalize hz : hi y = z at *
      have Hz := Lib.hid hz
      clear hz
      go_wp2_with (go_at_call 147; go_must (refine (BufWriteByte_any base b v' l rd' z _ Hbuf.out (by have := hlen.out; omega) hsz.out).mono ?_))
      rintro e w1 ⟨rfl, v2, hbuf2, hf2, hg2⟩
      have Hbuf2 := Lib.hid hbuf2
      have Hf2 := Lib.hid hf2
      have Hg2 := Lib.hid hg2
      clear hbuf2 hf2 hg2
      go_wp2
      refine ⟨⟨m / 128, l ++ [z], v2, false, ?_, rfl, ?_, Hbuf2.out, ?_, ?_⟩, ?_⟩
      · have := Hm.out; omega
      · rw [← Hu.out, sleb_big (n := m) (by omega), Hhi.out]; simp
      · refine Hfr.out.trans Hf2.out (fun i hi hlt => ?_)
        simp at hi ⊢
        rcases hi with hi | hi
        · exact .inl hi
        · rcases Hvb.out i hi with h | h
          · exact .inr h
          · omega
      · intro g hg
        rcases Hg2.out g hg with h | h
        · exact Hvb.out g h
        · have := Hfr.out.size; right; omega
      · simp [intOf]; omega

end Go.Proofs.Ytahohmdfllgedaa
