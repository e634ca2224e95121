/- laws.FnNop: behind the loop, T5. Printed by gen_eno.py.
laws.FnNop: behind the loop, joined. Printed by gen_eno.py. -/
import Derived.Test.YtahohmdfllgedaaCn4
set_option linter.unusedVariables false
set_option linter.unusedSimpArgs false
namespace Go.Proofs.Ytahohmdfllgedaa
open Go.RowKit

set_option maxRecDepth 100000 in
set_option maxHeartbeats 60000000 in
theorem Nop_T5 (la ra ma : Option Addr) (lc rc mc : Nat) (t : Nat) (l : List LCall) (x : LWorld) (w w4 wc : World) (a2 : Option Addr) (c2 : Nat) (hl : RSl 4 (RCall w) w (.slice la l.length lc) l) (hx : RWorld w (.slice ra x.regs.length rc) (.slice ma x.mem.length mc) x) (htn : t ≤ l.length) (hm : l.length ≤ 200)
    (hb : x.regs.length ≤ 100 ∧ x.mem.length ≤ 10000 ∧ x.at_ + x.mem.length < 18446744073709551616) (he : exprOk l = true) (fc : Fr [] (w.alloc (.cells #[.slice ra x.regs.length rc, vi x.base, vi x.cfa, .int .u64 (x.at_ : Int), .slice ma x.mem.length mc] 52)) wc) (hnp : NpR w w4 (nopL t l) (.slice a2 (l.length + 1) c2) wc) (he2 : exprOk (nopL t l) = true) (s : LSt) (ho1 : evalS x l (exprL l).length = .fine s) (ho2 : evalS x (nopL t l) (exprL (nopL t l)).length = .fine s)
    (s3 s4 s6 s7 s8 s10 s11 s12 s13 s14 s15 s16 s17 s18 s19 s20 s21 s22 s23 s24 s25 s26 s27 s28 s29 s30 s31 s32 s33 s34 s35 s36 s37 s38 s39 s40 s41 s42 s43 s44 s45 s46 s47 s48 s49 s50 s51 s52 s53 s54 s55 s56 s57 s58 s59 s60 s61 s62 s63 s64 s65 s66 s67 s68 s69 s70 s71 s72 s73 s74 s75 s76 s77 s78 s79 s80 s81 s82 s83 s84 s85 s86 s87 s88 s89 s90 s91 s92 s93 s94 s95 s96 s97 s98 s99 s100 s101 s102 s103 s104 s105 s106 s107 s108 s109 s110 s111 s112 s113 s114 s115 s116 s117 s118 s119 s120 s121 s122 s123 s124 s125 s126 s127 s128 s129 s130 s131 s132 s133 s134 s135 s136 s137 s138 s139 s140 s141 s142 s143 s144 s145 s146 s147 s148 s149 s150 s151 s152 s153 s154 s155 s156 s157 s158 s159 s160 s161 s162 s163 s164 s165 s166 s167 s168 s169 s170 s171 s172 s173 s174 s175 s176 s177 s178 s179 s180 s181 s182 s183 s184 s185 s186 s187 s188 s189 s190 s191 s192 s193 s194 s195 s196 s197 s198 s199 s200 s201 s202 s203 s204 s205 s206 s207 s208 s209 s210 s211 s212 s213 s214 s215 s216 s217 s218 s219 s220 s221 s222 s223 s224 s225 s226 s227 s228 s229 s230 s231 s232 s233 s234 s235 s236 s237 s238 s239 s240 s241 s242 : Value) :
    Code.wp Try.prog nopTail (bodyPost Try.prog Try.f8 (fun e w' => e = .returned (.bool true) ∧ Fr [] w w')) ⟨(.slice la l.length lc :: vi ((t : Nat) : Int) :: worldV (.slice ra x.regs.length rc) (.slice ma x.mem.length mc) x :: s3 :: s4 :: .pointer (some ⟨w.heap.size, 0, none⟩) :: s6 :: s7 :: s8 :: .slice a2 (l.length + 1) c2 :: s10 :: s11 :: s12 :: s13 :: s14 :: s15 :: s16 :: s17 :: s18 :: s19 :: s20 :: s21 :: s22 :: s23 :: s24 :: s25 :: s26 :: s27 :: s28 :: s29 :: s30 :: s31 :: s32 :: s33 :: s34 :: s35 :: s36 :: s37 :: s38 :: s39 :: s40 :: s41 :: s42 :: s43 :: s44 :: s45 :: s46 :: s47 :: s48 :: s49 :: s50 :: s51 :: s52 :: s53 :: s54 :: s55 :: s56 :: s57 :: s58 :: s59 :: s60 :: s61 :: s62 :: s63 :: s64 :: s65 :: s66 :: s67 :: s68 :: s69 :: s70 :: s71 :: s72 :: s73 :: s74 :: s75 :: s76 :: s77 :: s78 :: s79 :: s80 :: s81 :: s82 :: s83 :: s84 :: s85 :: s86 :: s87 :: s88 :: s89 :: s90 :: s91 :: s92 :: s93 :: s94 :: s95 :: s96 :: s97 :: s98 :: s99 :: s100 :: s101 :: s102 :: s103 :: s104 :: s105 :: s106 :: s107 :: s108 :: s109 :: s110 :: s111 :: s112 :: s113 :: s114 :: s115 :: s116 :: s117 :: s118 :: s119 :: s120 :: s121 :: s122 :: s123 :: s124 :: s125 :: s126 :: s127 :: s128 :: s129 :: s130 :: s131 :: s132 :: s133 :: s134 :: s135 :: s136 :: s137 :: s138 :: s139 :: s140 :: s141 :: s142 :: s143 :: s144 :: s145 :: s146 :: s147 :: s148 :: s149 :: s150 :: s151 :: s152 :: s153 :: s154 :: s155 :: s156 :: s157 :: s158 :: s159 :: s160 :: s161 :: s162 :: s163 :: s164 :: s165 :: s166 :: s167 :: s168 :: s169 :: s170 :: s171 :: s172 :: s173 :: s174 :: s175 :: s176 :: s177 :: s178 :: s179 :: s180 :: s181 :: s182 :: s183 :: s184 :: s185 :: s186 :: s187 :: s188 :: s189 :: s190 :: s191 :: s192 :: s193 :: s194 :: s195 :: s196 :: s197 :: s198 :: s199 :: s200 :: s201 :: s202 :: s203 :: s204 :: s205 :: s206 :: s207 :: s208 :: s209 :: s210 :: s211 :: s212 :: s213 :: s214 :: s215 :: s216 :: s217 :: s218 :: s219 :: s220 :: s221 :: s222 :: s223 :: s224 :: s225 :: s226 :: s227 :: s228 :: s229 :: s230 :: s231 :: s232 :: s233 :: s234 :: s235 :: s236 :: s237 :: s238 :: s239 :: s240 :: s241 :: s242 :: []).toArray, []⟩ wc := by
  have Hl := Lib.hid hl
  have Hx := Lib.hid hx
  have HA : Hid (Fr [] w (w.alloc (.cells #[.slice ra x.regs.length rc, vi x.base, vi x.cfa, .int .u64 (x.at_ : Int), .slice ma x.mem.length mc] 52))) := (Fr.refl _ _).alloc _
  have HB := Lib.hid hb
  have HI := Lib.hid (rcall_i64 hl)
  have HJ := Lib.hid (exprOk_jumps he)
  have HE := Lib.hid he
  have FC := Lib.hid fc
  have HNP := Lib.hid hnp
  obtain ⟨cc0, cc1, cc2, cc3, cc4⟩ := box_at FC.out
  have HM : Hid (RSl 4 (RCall wc) wc (.slice a2 (l.length + 1) c2) (nopL t l)) := HNP.out.rsl (HA.out.then FC.out)
  have HXM : Hid (RWorld wc _ _ x) := Hx.out.fr (HA.out.then FC.out)
  have HML : Hid ((nopL t l).length = l.length + 1) := nopL_len t l htn
  have HL : Hid ((exprL l).length ≤ 100000) := by have := exprL_le he (rcall_i64 hl) hm; show _ ≤ _; omega
  have HK := Lib.hid (exprOk_known he)
  have HI2 := Lib.hid (rcall_i64 HM.out)
  have HK2 := Lib.hid (exprOk_known he2)
  have HJ2 := Lib.hid (exprOk_jumps he2)
  have HL2 : Hid ((exprL (nopL t l)).length ≤ 100000) := by
    show _ ≤ _
    rw [exprL_len]
    have := pl_le (nopL t l) (fun c hc => ⟨known_len (exprOk_known he2 c hc), (rcall_i64 HM.out c hc).2⟩) (nopL t l).length
    have := HML.out
    omega
  have HPk : Hid (∀ s', Out.fine s = .fine s' → (resP s').length ≤ 1000000 ∧ ∀ p ∈ resP s', (p.kind = 0 ∨ p.kind = 1 ∨ p.kind = 2) ∧ p.bytes.length ≤ 1000000) := fun s' h => by
    cases h
    have hpk := evalS_ok (exprOk_known he) ho1
    exact ⟨hpk.1, fun p hp => ⟨(hpk.2 p hp).kind, by have := (hpk.2 p hp).len; omega⟩⟩
  have HN : Hid (Out.fine s ≠ .left) := fun h => by cases h
  have HE2 := Lib.hid he2
  have HO1 := Lib.hid ho1
  have HO2 := Lib.hid ho2
  clear he2 ho1 ho2
  clear hl hx hb he fc hnp
  conv => arg 2; whnf
  go_upto_region 21 with (go_at_call 27; go_must (refine (Expression_any w _ l _ Hl.out (HA.out.then FC.out) (by omega)).mono ?_); rintro e w5 hx5; obtain ⟨a5, k5, rfl, ho5, hf5⟩ := ExprPost.ok hx5 HE.out; have Ho5 := Lib.hid ho5; clear ho5 hx5; have FM5 : Hid (Fr [] wc w5) := hf5; have F5 : Hid (Fr [] (w.alloc (.cells #[.slice ra x.regs.length rc, vi x.base, vi x.cfa, .int .u64 (x.at_ : Int), .slice ma x.mem.length mc] 52)) w5) := FC.out.then hf5; clear hf5; obtain ⟨c50, c51, c52, c53, c54⟩ := box_at F5.out; )
  go_wp2_with (go_at_call 27; go_must (refine (Expression_any wc _ (nopL t l) _ HM.out FM5.out (by have := HML.out; omega)).mono ?_); rintro e w6 hx6; obtain ⟨a6, k6, rfl, ho6, hf6⟩ := ExprPost.ok hx6 HE2.out; have Ho6 := Lib.hid ho6; clear ho6 hx6; have FM6 : Hid (Fr [] wc w6) := FM5.out.then hf6; have FA6 : Hid (Fr [] w5 w6) := hf6; have F6 : Hid (Fr [] (w.alloc (.cells #[.slice ra x.regs.length rc, vi x.base, vi x.cfa, .int .u64 (x.at_ : Int), .slice ma x.mem.length mc] 52)) w6) := F5.out.then hf6; clear hf6; obtain ⟨c60, c61, c62, c63, c64⟩ := box_at F6.out; )
  go_upto_region 25 with (go_at_call 28; go_must (refine (sEvaluate_any w _ _ _ l x (exprL l).length _ Hl.out Hx.out (HA.out.then F6.out) HL.out HK.out HJ.out).mono ?_); rw [HO1.out]; rintro e w7 ⟨hf7, v7, pv7, rfl, hp7, hs7⟩; have FM7 : Hid (Fr [] wc w7) := FM6.out.then hf7; have FA7 : Hid (Fr [] w5 w7) := FA6.out.then hf7; have FB7 : Hid (Fr [] w6 w7) := hf7; clear hp7 hs7; have F7 : Hid (Fr [] (w.alloc (.cells #[.slice ra x.regs.length rc, vi x.base, vi x.cfa, .int .u64 (x.at_ : Int), .slice ma x.mem.length mc] 52)) w7) := F6.out.then hf7; clear hf7; obtain ⟨c70, c71, c72, c73, c74⟩ := box_at F7.out; )
  go_wp2_with (go_at_call 28; go_must (refine (sEvaluate_any wc _ _ _ (nopL t l) x (exprL (nopL t l)).length _ HM.out HXM.out FM7.out HL2.out HK2.out HJ2.out).mono ?_); rw [HO2.out]; rintro e w8 ⟨hf8, v8, pv8, rfl, hp8, hs8⟩; have FM8 : Hid (Fr [] wc w8) := FM7.out.then hf8; have FA8 : Hid (Fr [] w5 w8) := FA7.out.then hf8; have FB8 : Hid (Fr [] w6 w8) := FB7.out.then hf8; clear hp8 hs8; have F8 : Hid (Fr [] (w.alloc (.cells #[.slice ra x.regs.length rc, vi x.base, vi x.cfa, .int .u64 (x.at_ : Int), .slice ma x.mem.length mc] 52)) w8) := F7.out.then hf8; clear hf8; obtain ⟨c80, c81, c82, c83, c84⟩ := box_at F8.out; )
  go_wp2_with (go_at_call 30; go_must (refine (world_any _ _ _ _ _ _ _ _ _ _).mono ?_); rintro e w9 ⟨rfl, hf9⟩; have FM9 : Hid (Fr [] wc w9) := FM8.out.then hf9; have FA9 : Hid (Fr [] w5 w9) := FA8.out.then hf9; have FB9 : Hid (Fr [] w6 w9) := FB8.out.then hf9; have F9 : Hid (Fr [] (w.alloc (.cells #[.slice ra x.regs.length rc, vi x.base, vi x.cfa, .int .u64 (x.at_ : Int), .slice ma x.mem.length mc] 52)) w9) := F8.out.then hf9; clear hf9; obtain ⟨c90, c91, c92, c93, c94⟩ := box_at F9.out; )
  go_wp2_with (go_at_call 29; go_must (refine (Evaluate_any _ _ _ x l (exprL l) (.fine s) _ (Hx.out.fr (HA.out.then F9.out)) HB.out.1 HB.out.2.1 HB.out.2.2 (Sl.fr (own_sl Ho5.out) FA9.out (by simp)) HL.out rfl HO1.out HN.out HK.out (fun D hS hc h1 h2 => all_good hc HE.out HI.out hS h1 h2) HPk.out).mono ?_); rintro e w10 ⟨hf10, pv10, rfl, hp10⟩; have Hp10 := Lib.hid hp10; clear hp10; obtain ⟨pa10, pc10, hpv10, -⟩ := Hp10.out.shape; subst hpv10; have FM10 : Hid (Fr [] wc w10) := FM9.out.then hf10; have FA10 : Hid (Fr [] w5 w10) := FA9.out.then hf10; have FB10 : Hid (Fr [] w6 w10) := FB9.out.then hf10; have F10 : Hid (Fr [] (w.alloc (.cells #[.slice ra x.regs.length rc, vi x.base, vi x.cfa, .int .u64 (x.at_ : Int), .slice ma x.mem.length mc] 52)) w10) := F9.out.then hf10; clear hf10; obtain ⟨c100, c101, c102, c103, c104⟩ := box_at F10.out; )
  go_wp2_with (go_at_call 30; go_must (refine (world_any _ _ _ _ _ _ _ _ _ _).mono ?_); rintro e w11 ⟨rfl, hf11⟩; have FM11 : Hid (Fr [] wc w11) := FM10.out.then hf11; have FA11 : Hid (Fr [] w5 w11) := FA10.out.then hf11; have FB11 : Hid (Fr [] w6 w11) := FB10.out.then hf11; have FP11 : Hid (Fr [] w10 w11) := hf11; have F11 : Hid (Fr [] (w.alloc (.cells #[.slice ra x.regs.length rc, vi x.base, vi x.cfa, .int .u64 (x.at_ : Int), .slice ma x.mem.length mc] 52)) w11) := F10.out.then hf11; clear hf11; obtain ⟨c110, c111, c112, c113, c114⟩ := box_at F11.out; )
  go_wp2_with (go_at_call 29; go_must (refine (Evaluate_any _ _ _ x (nopL t l) (exprL (nopL t l)) (.fine s) _ (Hx.out.fr (HA.out.then F11.out)) HB.out.1 HB.out.2.1 HB.out.2.2 (Sl.fr (own_sl Ho6.out) FB11.out (by simp)) HL2.out rfl HO2.out HN.out HK2.out (fun D hS hc h1 h2 => all_good hc HE2.out HI2.out hS h1 h2) HPk.out).mono ?_); rintro e w12 ⟨hf12, pv12, rfl, hp12⟩; have Hp12 := Lib.hid hp12; clear hp12; obtain ⟨pa12, pc12, hpv12, -⟩ := Hp12.out.shape; subst hpv12; have FM12 : Hid (Fr [] wc w12) := FM11.out.then hf12; have FA12 : Hid (Fr [] w5 w12) := FA11.out.then hf12; have FB12 : Hid (Fr [] w6 w12) := FB11.out.then hf12; have FP12 : Hid (Fr [] w10 w12) := FP11.out.then hf12; have F12 : Hid (Fr [] (w.alloc (.cells #[.slice ra x.regs.length rc, vi x.base, vi x.cfa, .int .u64 (x.at_ : Int), .slice ma x.mem.length mc] 52)) w12) := F11.out.then hf12; clear hf12; obtain ⟨c120, c121, c122, c123, c124⟩ := box_at F12.out; )
  obtain ⟨n, hn⟩ : ∃ n, (resP s).length = n := ⟨_, rfl⟩
  have HPn := Lib.hid hn
  rw [hn]
  clear hn
  generalize valP x s = vv at *
  have hnb : n ≤ 1000000 := by rw [← HPn.out]; exact (HPk.out s rfl).1
  go_wp2_with fail
  go_loopw [184] (fun i wr => ∃ k : Nat, k ≤ n ∧ i = .int .i64 (k : Int) ∧ Fr [] w12 wr) (fun i _ => n - (intOf i).toNat)
  case atStart => exact ⟨0, Nat.zero_le _, rfl, Fr.refl _ _⟩
  case round =>
    obtain ⟨k, hk, rfl, hf⟩ := hrel
    have HF := Lib.hid hf
    clear hf
    by_cases hlt : k < n
    · have hltn : k < (resP s).length := by rw [HPn.out]; exact hlt
      obtain ⟨g, o, bv, rfl, a0, a1, a2', a3, hab⟩ := ipiece_at Hp10.out (FP12.out.then HF.out) k hltn
      obtain ⟨g2, o2, bw, rfl, b0, b1, b2, b3, hbb⟩ := ipiece_at Hp12.out HF.out k hltn
      obtain ⟨p, hp⟩ : ∃ p, (resP s)[k] = p := ⟨_, rfl⟩
      rw [hp] at a0 a1 a2' b0 b1 b2 hab hbb
      clear hp
      obtain ⟨um, hum⟩ : ∃ um, u64of p.value = um := ⟨_, rfl⟩
      rw [hum] at a1 b1
      have hq : ∃ x1 x2 nb, bv = .slice x1 nb x2 ∧ ∃ y1 y2, bw = .slice y1 nb y2 ∧ ∃ bs, Sl wr bv (vbs bs) ∧ Sl wr bw (vbs bs) := by
        rcases hab with ⟨h1, h2, h3⟩ | ⟨h1, rfl⟩
        · rcases hbb with ⟨-, -, h4⟩ | ⟨h4, -⟩
          · obtain ⟨x1, x2, rfl⟩ := sl_form h3
            obtain ⟨y1, y2, rfl⟩ := sl_form h4
            exact ⟨_, _, _, rfl, _, _, rfl, p.bytes, h3.fr (FP12.out.then HF.out) (by simp), h4.fr HF.out (by simp)⟩
          · exact absurd ⟨h1, h2⟩ h4
        · rcases hbb with ⟨h2, h3, -⟩ | ⟨-, rfl⟩
          · exact absurd ⟨h2, h3⟩ h1
          · exact ⟨_, _, _, rfl, _, _, rfl, [], .inl ⟨rfl, rfl⟩, .inl ⟨rfl, rfl⟩⟩
      obtain ⟨x1, x2, nb, rfl, y1, y2, rfl, bs, hs1, hs2⟩ := hq
      have HS1 := Lib.hid hs1
      have HS2 := Lib.hid hs2
      obtain ⟨kind, value, size, bytes, stk⟩ := p
      simp only at a0 a1 a2' b0 b1 b2
      clear hab hbb hs1 hs2 hum hltn
      have n1 : (kind != kind) = false := by simp
      have n2 : ((um : Int) != (um : Int)) = false := by simp
      have n3 : (size != size) = false := by simp
      go_wp2_with fail
      go_quiet ((go_at_call 14; refine Calls.quiet_of_same (v := .bool true) ((bEqual_any _ _ bs bs _ (HS1.out.fr (Fr.drewN (Fr.refl [] wr) _) (by simp)) (HS2.out.fr (Fr.drewN (Fr.refl [] wr) _) (by simp))).mono ?_); rintro e w' ⟨rfl, rfl⟩; exact ⟨by rw [beq_self_eq_true], rfl⟩))
      go_wp2_with fail
      go_roundw
      case rel => exact ⟨k + 1, by omega, by go_num, HF.out.then (Fr.drewN (Fr.refl [] wr) _)⟩
      case measure => simp [intOf]; omega
    · obtain rfl : k = n := by omega
      clear hlt
      go_wp2_with (go_at_call 11; go_must (refine (works_any _).mono ?_); rintro e w13 ⟨rfl, hf13⟩)
      go_wp2_with fail
      go_ret
      exact ⟨rfl, HA.out.then (F12.out.then (HF.out.then hf13))⟩
end Go.Proofs.Ytahohmdfllgedaa

namespace Go.Proofs.Ytahohmdfllgedaa
open Go.RowKit

theorem Nop_tail (la ra ma : Option Addr) (lc rc mc : Nat) (t : Nat) (l : List LCall) (x : LWorld) (w w4 wc : World) (a2 : Option Addr) (c2 : Nat) (hl : RSl 4 (RCall w) w (.slice la l.length lc) l) (hx : RWorld w (.slice ra x.regs.length rc) (.slice ma x.mem.length mc) x) (htn : t ≤ l.length) (hm : l.length ≤ 200)
    (hb : x.regs.length ≤ 100 ∧ x.mem.length ≤ 10000 ∧ x.at_ + x.mem.length < 18446744073709551616) (he : exprOk l = true) (fc : Fr [] (w.alloc (.cells #[.slice ra x.regs.length rc, vi x.base, vi x.cfa, .int .u64 (x.at_ : Int), .slice ma x.mem.length mc] 52)) wc) (hnp : NpR w w4 (nopL t l) (.slice a2 (l.length + 1) c2) wc)
    (s3 s4 s6 s7 s8 s10 s11 s12 s13 s14 s15 s16 s17 s18 s19 s20 s21 s22 s23 s24 s25 s26 s27 s28 s29 s30 s31 s32 s33 s34 s35 s36 s37 s38 s39 s40 s41 s42 s43 s44 s45 s46 s47 s48 s49 s50 s51 s52 s53 s54 s55 s56 s57 s58 s59 s60 s61 s62 s63 s64 s65 s66 s67 s68 s69 s70 s71 s72 s73 s74 s75 s76 s77 s78 s79 s80 s81 s82 s83 s84 s85 s86 s87 s88 s89 s90 s91 s92 s93 s94 s95 s96 s97 s98 s99 s100 s101 s102 s103 s104 s105 s106 s107 s108 s109 s110 s111 s112 s113 s114 s115 s116 s117 s118 s119 s120 s121 s122 s123 s124 s125 s126 s127 s128 s129 s130 s131 s132 s133 s134 s135 s136 s137 s138 s139 s140 s141 s142 s143 s144 s145 s146 s147 s148 s149 s150 s151 s152 s153 s154 s155 s156 s157 s158 s159 s160 s161 s162 s163 s164 s165 s166 s167 s168 s169 s170 s171 s172 s173 s174 s175 s176 s177 s178 s179 s180 s181 s182 s183 s184 s185 s186 s187 s188 s189 s190 s191 s192 s193 s194 s195 s196 s197 s198 s199 s200 s201 s202 s203 s204 s205 s206 s207 s208 s209 s210 s211 s212 s213 s214 s215 s216 s217 s218 s219 s220 s221 s222 s223 s224 s225 s226 s227 s228 s229 s230 s231 s232 s233 s234 s235 s236 s237 s238 s239 s240 s241 s242 : Value) :
    Code.wp Try.prog nopTail (bodyPost Try.prog Try.f8 (fun e w' => e = .returned (.bool true) ∧ Fr [] w w')) ⟨(.slice la l.length lc :: vi ((t : Nat) : Int) :: worldV (.slice ra x.regs.length rc) (.slice ma x.mem.length mc) x :: s3 :: s4 :: .pointer (some ⟨w.heap.size, 0, none⟩) :: s6 :: s7 :: s8 :: .slice a2 (l.length + 1) c2 :: s10 :: s11 :: s12 :: s13 :: s14 :: s15 :: s16 :: s17 :: s18 :: s19 :: s20 :: s21 :: s22 :: s23 :: s24 :: s25 :: s26 :: s27 :: s28 :: s29 :: s30 :: s31 :: s32 :: s33 :: s34 :: s35 :: s36 :: s37 :: s38 :: s39 :: s40 :: s41 :: s42 :: s43 :: s44 :: s45 :: s46 :: s47 :: s48 :: s49 :: s50 :: s51 :: s52 :: s53 :: s54 :: s55 :: s56 :: s57 :: s58 :: s59 :: s60 :: s61 :: s62 :: s63 :: s64 :: s65 :: s66 :: s67 :: s68 :: s69 :: s70 :: s71 :: s72 :: s73 :: s74 :: s75 :: s76 :: s77 :: s78 :: s79 :: s80 :: s81 :: s82 :: s83 :: s84 :: s85 :: s86 :: s87 :: s88 :: s89 :: s90 :: s91 :: s92 :: s93 :: s94 :: s95 :: s96 :: s97 :: s98 :: s99 :: s100 :: s101 :: s102 :: s103 :: s104 :: s105 :: s106 :: s107 :: s108 :: s109 :: s110 :: s111 :: s112 :: s113 :: s114 :: s115 :: s116 :: s117 :: s118 :: s119 :: s120 :: s121 :: s122 :: s123 :: s124 :: s125 :: s126 :: s127 :: s128 :: s129 :: s130 :: s131 :: s132 :: s133 :: s134 :: s135 :: s136 :: s137 :: s138 :: s139 :: s140 :: s141 :: s142 :: s143 :: s144 :: s145 :: s146 :: s147 :: s148 :: s149 :: s150 :: s151 :: s152 :: s153 :: s154 :: s155 :: s156 :: s157 :: s158 :: s159 :: s160 :: s161 :: s162 :: s163 :: s164 :: s165 :: s166 :: s167 :: s168 :: s169 :: s170 :: s171 :: s172 :: s173 :: s174 :: s175 :: s176 :: s177 :: s178 :: s179 :: s180 :: s181 :: s182 :: s183 :: s184 :: s185 :: s186 :: s187 :: s188 :: s189 :: s190 :: s191 :: s192 :: s193 :: s194 :: s195 :: s196 :: s197 :: s198 :: s199 :: s200 :: s201 :: s202 :: s203 :: s204 :: s205 :: s206 :: s207 :: s208 :: s209 :: s210 :: s211 :: s212 :: s213 :: s214 :: s215 :: s216 :: s217 :: s218 :: s219 :: s220 :: s221 :: s222 :: s223 :: s224 :: s225 :: s226 :: s227 :: s228 :: s229 :: s230 :: s231 :: s232 :: s233 :: s234 :: s235 :: s236 :: s237 :: s238 :: s239 :: s240 :: s241 :: s242 :: []).toArray, []⟩ wc := by
  cases he2 : exprOk (nopL t l)
  · exact Nop_T0 la ra ma lc rc mc t l x w w4 wc a2 c2 hl hx htn hm hb he fc hnp he2 s3 s4 s6 s7 s8 s10 s11 s12 s13 s14 s15 s16 s17 s18 s19 s20 s21 s22 s23 s24 s25 s26 s27 s28 s29 s30 s31 s32 s33 s34 s35 s36 s37 s38 s39 s40 s41 s42 s43 s44 s45 s46 s47 s48 s49 s50 s51 s52 s53 s54 s55 s56 s57 s58 s59 s60 s61 s62 s63 s64 s65 s66 s67 s68 s69 s70 s71 s72 s73 s74 s75 s76 s77 s78 s79 s80 s81 s82 s83 s84 s85 s86 s87 s88 s89 s90 s91 s92 s93 s94 s95 s96 s97 s98 s99 s100 s101 s102 s103 s104 s105 s106 s107 s108 s109 s110 s111 s112 s113 s114 s115 s116 s117 s118 s119 s120 s121 s122 s123 s124 s125 s126 s127 s128 s129 s130 s131 s132 s133 s134 s135 s136 s137 s138 s139 s140 s141 s142 s143 s144 s145 s146 s147 s148 s149 s150 s151 s152 s153 s154 s155 s156 s157 s158 s159 s160 s161 s162 s163 s164 s165 s166 s167 s168 s169 s170 s171 s172 s173 s174 s175 s176 s177 s178 s179 s180 s181 s182 s183 s184 s185 s186 s187 s188 s189 s190 s191 s192 s193 s194 s195 s196 s197 s198 s199 s200 s201 s202 s203 s204 s205 s206 s207 s208 s209 s210 s211 s212 s213 s214 s215 s216 s217 s218 s219 s220 s221 s222 s223 s224 s225 s226 s227 s228 s229 s230 s231 s232 s233 s234 s235 s236 s237 s238 s239 s240 s241 s242
  cases ho1 : evalS x l (exprL l).length with
  | left => exact Nop_T1 la ra ma lc rc mc t l x w w4 wc a2 c2 hl hx htn hm hb he fc hnp he2 ho1 s3 s4 s6 s7 s8 s10 s11 s12 s13 s14 s15 s16 s17 s18 s19 s20 s21 s22 s23 s24 s25 s26 s27 s28 s29 s30 s31 s32 s33 s34 s35 s36 s37 s38 s39 s40 s41 s42 s43 s44 s45 s46 s47 s48 s49 s50 s51 s52 s53 s54 s55 s56 s57 s58 s59 s60 s61 s62 s63 s64 s65 s66 s67 s68 s69 s70 s71 s72 s73 s74 s75 s76 s77 s78 s79 s80 s81 s82 s83 s84 s85 s86 s87 s88 s89 s90 s91 s92 s93 s94 s95 s96 s97 s98 s99 s100 s101 s102 s103 s104 s105 s106 s107 s108 s109 s110 s111 s112 s113 s114 s115 s116 s117 s118 s119 s120 s121 s122 s123 s124 s125 s126 s127 s128 s129 s130 s131 s132 s133 s134 s135 s136 s137 s138 s139 s140 s141 s142 s143 s144 s145 s146 s147 s148 s149 s150 s151 s152 s153 s154 s155 s156 s157 s158 s159 s160 s161 s162 s163 s164 s165 s166 s167 s168 s169 s170 s171 s172 s173 s174 s175 s176 s177 s178 s179 s180 s181 s182 s183 s184 s185 s186 s187 s188 s189 s190 s191 s192 s193 s194 s195 s196 s197 s198 s199 s200 s201 s202 s203 s204 s205 s206 s207 s208 s209 s210 s211 s212 s213 s214 s215 s216 s217 s218 s219 s220 s221 s222 s223 s224 s225 s226 s227 s228 s229 s230 s231 s232 s233 s234 s235 s236 s237 s238 s239 s240 s241 s242
  | bad => exact Nop_T2 la ra ma lc rc mc t l x w w4 wc a2 c2 hl hx htn hm hb he fc hnp he2 ho1 s3 s4 s6 s7 s8 s10 s11 s12 s13 s14 s15 s16 s17 s18 s19 s20 s21 s22 s23 s24 s25 s26 s27 s28 s29 s30 s31 s32 s33 s34 s35 s36 s37 s38 s39 s40 s41 s42 s43 s44 s45 s46 s47 s48 s49 s50 s51 s52 s53 s54 s55 s56 s57 s58 s59 s60 s61 s62 s63 s64 s65 s66 s67 s68 s69 s70 s71 s72 s73 s74 s75 s76 s77 s78 s79 s80 s81 s82 s83 s84 s85 s86 s87 s88 s89 s90 s91 s92 s93 s94 s95 s96 s97 s98 s99 s100 s101 s102 s103 s104 s105 s106 s107 s108 s109 s110 s111 s112 s113 s114 s115 s116 s117 s118 s119 s120 s121 s122 s123 s124 s125 s126 s127 s128 s129 s130 s131 s132 s133 s134 s135 s136 s137 s138 s139 s140 s141 s142 s143 s144 s145 s146 s147 s148 s149 s150 s151 s152 s153 s154 s155 s156 s157 s158 s159 s160 s161 s162 s163 s164 s165 s166 s167 s168 s169 s170 s171 s172 s173 s174 s175 s176 s177 s178 s179 s180 s181 s182 s183 s184 s185 s186 s187 s188 s189 s190 s191 s192 s193 s194 s195 s196 s197 s198 s199 s200 s201 s202 s203 s204 s205 s206 s207 s208 s209 s210 s211 s212 s213 s214 s215 s216 s217 s218 s219 s220 s221 s222 s223 s224 s225 s226 s227 s228 s229 s230 s231 s232 s233 s234 s235 s236 s237 s238 s239 s240 s241 s242
  | fine s =>
    cases ho2 : evalS x (nopL t l) (exprL (nopL t l)).length with
    | left => exact Nop_T3 la ra ma lc rc mc t l x w w4 wc a2 c2 hl hx htn hm hb he fc hnp he2 s ho1 ho2 s3 s4 s6 s7 s8 s10 s11 s12 s13 s14 s15 s16 s17 s18 s19 s20 s21 s22 s23 s24 s25 s26 s27 s28 s29 s30 s31 s32 s33 s34 s35 s36 s37 s38 s39 s40 s41 s42 s43 s44 s45 s46 s47 s48 s49 s50 s51 s52 s53 s54 s55 s56 s57 s58 s59 s60 s61 s62 s63 s64 s65 s66 s67 s68 s69 s70 s71 s72 s73 s74 s75 s76 s77 s78 s79 s80 s81 s82 s83 s84 s85 s86 s87 s88 s89 s90 s91 s92 s93 s94 s95 s96 s97 s98 s99 s100 s101 s102 s103 s104 s105 s106 s107 s108 s109 s110 s111 s112 s113 s114 s115 s116 s117 s118 s119 s120 s121 s122 s123 s124 s125 s126 s127 s128 s129 s130 s131 s132 s133 s134 s135 s136 s137 s138 s139 s140 s141 s142 s143 s144 s145 s146 s147 s148 s149 s150 s151 s152 s153 s154 s155 s156 s157 s158 s159 s160 s161 s162 s163 s164 s165 s166 s167 s168 s169 s170 s171 s172 s173 s174 s175 s176 s177 s178 s179 s180 s181 s182 s183 s184 s185 s186 s187 s188 s189 s190 s191 s192 s193 s194 s195 s196 s197 s198 s199 s200 s201 s202 s203 s204 s205 s206 s207 s208 s209 s210 s211 s212 s213 s214 s215 s216 s217 s218 s219 s220 s221 s222 s223 s224 s225 s226 s227 s228 s229 s230 s231 s232 s233 s234 s235 s236 s237 s238 s239 s240 s241 s242
    | bad => exact Nop_T4 la ra ma lc rc mc t l x w w4 wc a2 c2 hl hx htn hm hb he fc hnp he2 s ho1 ho2 s3 s4 s6 s7 s8 s10 s11 s12 s13 s14 s15 s16 s17 s18 s19 s20 s21 s22 s23 s24 s25 s26 s27 s28 s29 s30 s31 s32 s33 s34 s35 s36 s37 s38 s39 s40 s41 s42 s43 s44 s45 s46 s47 s48 s49 s50 s51 s52 s53 s54 s55 s56 s57 s58 s59 s60 s61 s62 s63 s64 s65 s66 s67 s68 s69 s70 s71 s72 s73 s74 s75 s76 s77 s78 s79 s80 s81 s82 s83 s84 s85 s86 s87 s88 s89 s90 s91 s92 s93 s94 s95 s96 s97 s98 s99 s100 s101 s102 s103 s104 s105 s106 s107 s108 s109 s110 s111 s112 s113 s114 s115 s116 s117 s118 s119 s120 s121 s122 s123 s124 s125 s126 s127 s128 s129 s130 s131 s132 s133 s134 s135 s136 s137 s138 s139 s140 s141 s142 s143 s144 s145 s146 s147 s148 s149 s150 s151 s152 s153 s154 s155 s156 s157 s158 s159 s160 s161 s162 s163 s164 s165 s166 s167 s168 s169 s170 s171 s172 s173 s174 s175 s176 s177 s178 s179 s180 s181 s182 s183 s184 s185 s186 s187 s188 s189 s190 s191 s192 s193 s194 s195 s196 s197 s198 s199 s200 s201 s202 s203 s204 s205 s206 s207 s208 s209 s210 s211 s212 s213 s214 s215 s216 s217 s218 s219 s220 s221 s222 s223 s224 s225 s226 s227 s228 s229 s230 s231 s232 s233 s234 s235 s236 s237 s238 s239 s240 s241 s242
    | fine s2 =>
      obtain rfl := evalS_nop htn ho1 ho2
      exact Nop_T5 la ra ma lc rc mc t l x w w4 wc a2 c2 hl hx htn hm hb he fc hnp he2 s ho1 ho2 s3 s4 s6 s7 s8 s10 s11 s12 s13 s14 s15 s16 s17 s18 s19 s20 s21 s22 s23 s24 s25 s26 s27 s28 s29 s30 s31 s32 s33 s34 s35 s36 s37 s38 s39 s40 s41 s42 s43 s44 s45 s46 s47 s48 s49 s50 s51 s52 s53 s54 s55 s56 s57 s58 s59 s60 s61 s62 s63 s64 s65 s66 s67 s68 s69 s70 s71 s72 s73 s74 s75 s76 s77 s78 s79 s80 s81 s82 s83 s84 s85 s86 s87 s88 s89 s90 s91 s92 s93 s94 s95 s96 s97 s98 s99 s100 s101 s102 s103 s104 s105 s106 s107 s108 s109 s110 s111 s112 s113 s114 s115 s116 s117 s118 s119 s120 s121 s122 s123 s124 s125 s126 s127 s128 s129 s130 s131 s132 s133 s134 s135 s136 s137 s138 s139 s140 s141 s142 s143 s144 s145 s146 s147 s148 s149 s150 s151 s152 s153 s154 s155 s156 s157 s158 s159 s160 s161 s162 s163 s164 s165 s166 s167 s168 s169 s170 s171 s172 s173 s174 s175 s176 s177 s178 s179 s180 s181 s182 s183 s184 s185 s186 s187 s188 s189 s190 s191 s192 s193 s194 s195 s196 s197 s198 s199 s200 s201 s202 s203 s204 s205 s206 s207 s208 s209 s210 s211 s212 s213 s214 s215 s216 s217 s218 s219 s220 s221 s222 s223 s224 s225 s226 s227 s228 s229 s230 s231 s232 s233 s234 s235 s236 s237 s238 s239 s240 s241 s242
end Go.Proofs.Ytahohmdfllgedaa
