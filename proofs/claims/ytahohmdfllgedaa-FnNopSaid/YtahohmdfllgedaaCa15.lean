/- spec.Expression: operations written as a row of bytes. -/
import Derived.Test.YtahohmdfllgedaaCa14
import Derived.Test.YtahohmdfllgedaaCa3
set_option linter.unusedVariables false
set_option linter.unusedSimpArgs false
namespace Go.Proofs.Ytahohmdfllgedaa
open Go.RowKit

theorem sliceI : SliceT Try.prog 101 3 (.int .i64 0) 1 8 := ⟨Try.underlying101, by kernel_rfl, rfl, by decide⟩
/-- The places of the first k operations. -/
def pls (l : List LCall) (k : Nat) : List Value := (List.range k).map fun i => .int .i64 ((pl l i : Nat) : Int)
theorem pls_len (l : List LCall) (k : Nat) : (pls l k).length = k := by simp [pls]
theorem pls_succ (l : List LCall) (k : Nat) : pls l (k + 1) = pls l k ++ [.int .i64 ((pl l k : Nat) : Int)] := by simp [pls, List.range_succ]
theorem pls_get (l : List LCall) (k i : Nat) (h : i < k) : (pls l k)[i]? = some (.int .i64 ((pl l i : Nat) : Int)) := by simp [pls, h]
/-- What Expression returns. -/
def ExprPost (l : List LCall) (w : World) (e : Ending) (w' : World) : Prop :=
  (exprOk l = true ∧ ∃ a c, e = .returned (.tuple #[.slice a (exprL l).length c, .bool true]) ∧ w'.ownsRow w.heap.size 5 1 (.slice a (exprL l).length c) (exprL l).length (vbs (exprL l)) ∧ Fr [] w w') ∨
  (exprOk l = false ∧ ∃ v, e = .returned (.tuple #[v, .bool false]) ∧ Fr [] w w')

theorem own_ne {w : World} {base e sz n : Nat} {v : Value} {vs : List Value} {b : Nat} {cs : Array Value} {t : TypeId} {fz : Nat × Nat} (h : w.ownsRow base e sz v n vs) (hb : w.heap[b]? = some (.cells cs t fz)) (ht : e ≠ t) : b ∉ v.ownBlock.toList := by
  intro hm
  have hm2 : v.ownBlock = some b := by simpa using hm
  rcases h.2 with ⟨rfl, _⟩ | ⟨g, cap, cur, rfl, hbg, hhb, _⟩
  · simp [Value.ownBlock] at hm2
  · simp [Value.ownBlock] at hm2
    subst hm2
    rw [hb] at hhb
    injection hhb with hhb
    injection hhb with _ h2 _
    exact ht h2.symm
theorem sl_new1 (w : World) (y : UInt8) {n : Nat} (hn : n = w.heap.size) : Sl (w.alloc (.cells #[.int .u8 ((y.toNat : Nat) : Int)] 5)) (.slice (some ⟨n, 0, none⟩) 1 1) (vbs [y]) := by
  subst hn
  refine sl_mk rfl (Nat.le_refl _) (by decide) (fun i v hi => ?_)
  rw [blk_cell (blk_new _ _)]
  cases i with
  | zero => simpa using hi
  | succ i => simp at hi
theorem eshape_jump {op : Int} (h : 106 ∈ (eshape op).1) : isJump op = true ∧ (eshape op).1 = [106] := by
  by_cases h40 : op = 40 ∨ op = 47
  · refine ⟨by simp [isJump, h40], ?_⟩
    rcases h40 with rfl | rfl <;> decide
  · exfalso
    revert h
    unfold eshape
    repeat' (refine iteInduction (motive := fun x : List UInt8 × Bool => ¬ 106 ∈ x.1) ?_ ?_ <;> intro _)
    all_goals first | (exfalso; omega) | decide
theorem eshape_jump2 {op : Int} (h : isJump op = true) : (eshape op).1 = [106] := by
  simp [isJump] at h
  rcases h with rfl | rfl <;> decide

set_option maxRecDepth 100000 in
set_option maxHeartbeats 8000000 in
theorem Expression_any (W : World) (v : Value) (l : List LCall) (w : World) (h : RSl 4 (RCall W) W v l) (hw : Fr [] W w) (hl : l.length ≤ 1000) :
    Calls Try.prog 27 #[v] w (ExprPost l w) := by
  obtain ⟨a0, c0, rfl, h1, h2⟩ := RSl.shape h
  have H := Lib.hid h
  have Hw := Lib.hid hw
  clear h hw
  go_enter Try.func27, Try.ntmps27
  go_wp2_with fail
  go_loopw [4, 18] (fun p i wr => ∃ k : Nat, ∃ a c, k ≤ l.length ∧ i = .int .i64 (k : Int) ∧ p = .slice a (k + 1) c ∧ knownAll (l.take k) = true ∧ pl l k ≤ k * 149 ∧
      wr.ownsRow w.heap.size 3 1 (.slice a (k + 1) c) (k + 1) (pls l (k + 1)) ∧ Fr [] w wr) (fun _ i _ => l.length - (intOf i).toNat)
  case atStart =>
    refine ⟨0, _, _, Nat.zero_le _, rfl, rfl, rfl, by simp [pl_zero], ?_, (Fr.refl _ _).alloc _⟩
    exact World.ownsRow_lit w #[.int .i64 0] 1 (Nat.le_refl _) (by decide) rfl
  case round =>
    obtain ⟨wo, rfl⟩ : ∃ wo : World, wo = wr := ⟨_, rfl⟩
    obtain ⟨k, a, c, hk, rfl, rfl, hkn, hlen, hown, hfr⟩ := hrel
    have Hkn := Lib.hid hkn
    have Hown := Lib.hid hown
    have Hfr := Lib.hid hfr
    clear hown hfr hkn
    by_cases hlt : k < l.length
    case neg =>
      obtain rfl : k = l.length := by omega
      clear hlt
      go_wp2
      obtain ⟨wP, hP⟩ : ∃ wP : World, wP = wo := ⟨_, rfl⟩
      have HPf := Lib.hid (show Fr [] w wP from hP ▸ Hfr.out)
      have HPo := Lib.hid (show wP.ownsRow w.heap.size 3 1 (.slice a (l.length + 1) c) (l.length + 1) (pls l (l.length + 1)) from hP ▸ Hown.out)
      have Hkn2 : Hid (knownAll l = true) := by show _ = _; rw [← Hkn.out, List.take_length]
      rw [← hP]
      have HPb : Hid (pl l l.length ≤ 1000000) := by show _ ≤ _; omega
      clear Hfr Hown Hkn hP
      clear wo
      obtain ⟨gP, cP, hvP, -, hgP⟩ := HPo.out.form (by omega)
      simp only [Value.slice.injEq] at hvP
      obtain ⟨rfl, -, rfl⟩ := hvP
      have HPl : Hid (∀ w', Fr [] wP w' → ∀ i, i ≤ l.length → w'.cell? ⟨gP, i, none⟩ = some (.int .i64 ((pl l i : Nat) : Int))) := fun w' f i hi => f.cell (by rw [HPo.out.cellAt i (by omega), pls_get l _ i (by omega)]) (by simp)
      go_loopw [7, 40] (fun v i wr => ∃ k : Nat, ∃ a n c, k ≤ l.length ∧ i = .int .i64 (k : Int) ∧ v = .slice a n c ∧ jumpsFrom l 0 (l.take k) = true ∧ pl l k ≤ k * 149 ∧ OwnR wP wr a n c (exprFrom l 0 (l.take k))) (fun _ i _ => l.length - (intOf i).toNat)
      case atStart => exact ⟨0, none, 0, 0, Nat.zero_le _, rfl, rfl, rfl, by simp [pl_zero], OwnR.nil (Fr.refl _ _)⟩
      case round =>
        obtain ⟨wo, rfl⟩ : ∃ wo : World, wo = wr := ⟨_, rfl⟩
        obtain ⟨k, a, n, c2, hk, rfl, rfl, hjs, hlen, hR⟩ := hrel
        have HR := Lib.hid hR
        have Hjs := Lib.hid hjs
        have hnl : n = pl l k := by rw [hR.len, expr_take_len]
        have hn149 : n ≤ k * 149 := by omega
        have Hnl := Lib.hid hnl
        clear hR hjs hnl hlen
        by_cases hlt : k < l.length
        case neg =>
          obtain rfl : k = l.length := by omega
          clear hlt
          go_wp2
          go_ret2
          have e : l.take l.length = l := List.take_length
          have HR' := HR.out
          have Hj' := Hjs.out
          rw [e] at HR' Hj'
          obtain ⟨c', rfl, rfl⟩ := HR'.inj
          refine .inl ⟨by rw [exprOk, show knownAll l = true from Hkn2.out, Hj']; rfl, _, _, rfl, own_base HR'.own HPf.out.size, HPf.out.then HR'.fr⟩
        case pos =>
          obtain ⟨g, o, da, dc, rfl, d0, d1, d2, d3, hd, hi0, hi1, hi2⟩ := call_at H.out ((Hw.out.then HPf.out).then HR.out.fr) k hlt
          have hstep := exprFrom_take l l 0 k hlt
          have hjt := jumpsFrom_take l l 0 k hlt
          have hjf := jumpsFrom_false l l 0 k hlt
          have hps := pl_succ l k hlt
          have hkx : knownB l[k].op l[k].a l[k].data.length = true := List.all_eq_true.1 Hkn2.out _ (List.getElem_mem hlt)
          simp only [Nat.zero_add] at hstep hjt hjf
          generalize l[k] = x at *
          have hxd : x.data.length ≤ 64 := by have := hkx; simp [knownB] at this; exact this.1.2
          have hsig := eshape_signs x.op
          have hsl := eshape_len x.op
          have hj106 := @eshape_jump x.op
          have hj107 := @eshape_jump2 x.op
          have hend := eL_len x (dOf l k x)
          have hz149 := eSz_le x hxd hi1 hi2
          have hopr : 0 ≤ x.op ∧ x.op < 256 := by
            have h2 : (eshape x.op).2 = true := by have := hkx; simp [knownB] at this; exact this.1.1
            by_cases hr : 0 ≤ x.op ∧ x.op < 256
            · exact hr
            · exfalso; revert h2; unfold eshape
              repeat' (refine iteInduction (motive := fun x : List UInt8 × Bool => ¬ x.2 = true) ?_ ?_ <;> intro _)
              all_goals first | (exfalso; omega) | decide
          obtain ⟨y, hyy⟩ : ∃ y : UInt8, UInt8.ofNat x.op.toNat = y := ⟨_, rfl⟩
          have hy : x.op % 256 = ((y.toNat : Nat) : Int) := by rw [← hyy, ofNat_toNat (by omega)]; omega
          have hy2 : IntKind.u8.wrap x.op = ((y.toNat : Nat) : Int) := hy
          obtain ⟨S, hS⟩ : ∃ S, (eshape x.op).1 = S := ⟨_, rfl⟩
          obtain ⟨B, hB⟩ : ∃ B, (eshape x.op).2 = B := ⟨_, rfl⟩
          obtain ⟨SB, hSB⟩ : ∃ S' : ByteArray, (⟨S.toArray⟩ : ByteArray) = S' := ⟨_, rfl⟩
          have hSs : SB.size = S.length := by rw [← hSB]; simp [ByteArray.size]
          have hSg : ∀ i (h : i < SB.size) (h' : i < S.length), SB[i] = S[i] := by
            intro i h h'
            subst hSB; rfl
          have hE : eL x (dOf l k x) = y :: eopnds x.data (dOf l k x) S [x.a, x.b] := by rw [eL, hyy, hS]
          rw [hS] at hsig hsl hj106 hj107
          obtain ⟨L0, hL0⟩ : ∃ L, exprFrom l 0 (l.take k) = L := ⟨_, rfl⟩
          rw [hL0] at hstep HR
          rw [hE] at hstep hend
          have HSB := Lib.hid hSB
          have HSg := Lib.hid hSg
          have HS := Lib.hid hS
          have HB := Lib.hid hB
          have Hp := Lib.hid (And.intro hstep (And.intro hjt (And.intro hjf (And.intro hps (And.intro hi1 hi2)))))
          have Hq := Lib.hid (And.intro hend (And.intro hsig (And.intro hj106 hj107)))
          have Hd := Lib.hid hd
          have Hxd := Lib.hid hxd
          have HL0 := Lib.hid hL0
          clear hSB hSg hS hB hstep hjt hjf hps hi0 hi1 hi2 hend hsig hj106 hj107 hd hkx hopr hyy hL0 hE
          go_wp2_with (first | (go_at_call 54; go_must (refine (operands_any _ _).mono ?_; rw [HS.out, HB.out, HSB.out]; rintro e w1 ⟨rfl, rfl⟩)) | (at_builtin; go_must (refine OwnR.app_list ((HR.out.call ((Fr.refl _ _).alloc _)).call ((Fr.refl _ _).alloc _)) (sl_new1 _ y (by simp)) rfl _ _ rfl rfl rfl (by omega) ?_)))
          intro a3 c3 w3 ho3 hf3
          have hb3 : w3.heap[wo.heap.size]? = some (.cells #[.int .i64 x.op, .int .i64 x.a, .int .i64 x.b, .slice da x.data.length dc] 48 (0, 0)) :=
            hf3.get (blk_alloc (blk_new _ _)) (fun hm => by have := (HR.out.lt (g := wo.heap.size) (by simpa using hm)).2; omega)
          have R3 := Lib.hid ho3
          have B3 := Lib.hid hb3
          clear ho3 hf3 hb3 d0 d1 d2 d3
          have hlenj : ∀ j, (L0 ++ (y :: eopnds x.data (dOf l k x) (S.take j) [x.a, x.b])).length ≤ k * 149 + 149 := by
            intro j
            have q1 := eopnds_len x.data (dOf l k x) Hxd.out (S.take j) [x.a, x.b] (fun ch h => Hq.out.2.1 ch (List.mem_of_mem_take h)) (by simp; exact ⟨Hp.out.2.2.2.2.1, Hp.out.2.2.2.2.2⟩)
            have q2 : (S.take j).length ≤ 2 := by rw [List.length_take]; omega
            have q3 := HR.out.len
            simp only [List.length_append, List.length_cons]; omega
          have HLj := Lib.hid hlenj
          clear hlenj
          go_wp2_with fail
          go_loopw [7, 59] (fun v i wr => ∃ j : Nat, ∃ a n c, j ≤ S.length ∧ i = .int .i64 (j : Int) ∧ v = .slice a n c ∧ OwnR wP wr a n c (L0 ++ (y :: eopnds x.data (dOf l k x) (S.take j) [x.a, x.b])) ∧
            wr.heap[wo.heap.size]? = some (.cells #[.int .i64 x.op, .int .i64 x.a, .int .i64 x.b, .slice da x.data.length dc] 48 (0, 0)) ∧ (0 < j → jumpOk l k x = true)) (fun _ i _ => S.length - (intOf i).toNat)
          case atStart => exact ⟨0, a3, n + 1, c3, Nat.zero_le _, rfl, rfl, R3.out, B3.out, fun h => by omega⟩
          case round =>
            obtain ⟨w4, rfl⟩ : ∃ w4 : World, w4 = wr := ⟨_, rfl⟩
            clear R3 B3 HR
            obtain ⟨j, a4, n4, c4, hj, rfl, rfl, hR4, hB4, hjo⟩ := hrel
            have R4 := Lib.hid hR4
            have B4 := Lib.hid hB4
            have hn4 : n4 ≤ k * 149 + 149 := by rw [hR4.len]; exact HLj.out j
            have Hjo := Lib.hid hjo
            clear hR4 hB4 hjo HLj
            by_cases hlt2 : j < S.length
            case neg =>
              obtain rfl : j = S.length := by omega
              clear hlt2
              go_wp2_with fail
              go_roundw
              case rel =>
                have e : exprFrom l 0 (l.take (k + 1)) = L0 ++ (y :: eopnds x.data (dOf l k x) (S.take S.length) [x.a, x.b]) := by rw [Hp.out.1, List.take_length]
                have hjj : jumpOk l k x = true := by
                  by_cases hij : isJump x.op = true
                  · exact Hjo.out (by rw [Hq.out.2.2.2 hij]; simp)
                  · simp [jumpOk, hij]
                refine ⟨k + 1, a4, n4, c4, by omega, by go_num, rfl, ?_, ?_, ?_⟩
                · rw [Hp.out.2.1, Hjs.out, hjj]; rfl
                · have := eSz_le x Hxd.out Hp.out.2.2.2.2.1 Hp.out.2.2.2.2.2; have q1 := Hp.out.2.2.2.1; have q2 := Hnl.out; omega
                · rw [e]; exact R4.out
              case measure => simp [intOf]; omega
            case pos =>
              have hst : eopnds x.data (dOf l k x) (S.take (j + 1)) [x.a, x.b] = eopnds x.data (dOf l k x) (S.take j) [x.a, x.b] ++ eopnd x.data (dOf l k x) S[j] ([x.a, x.b][j]'(by simp; omega)) := eopnds_take _ _ _ _ j hlt2 (by simp; omega)
              obtain ⟨ch, hch⟩ : ∃ ch, S[j] = ch := ⟨_, rfl⟩
              have hlS : j < SB.size := by omega
              have hSj : SB[j] = ch := by rw [HSg.out j hlS hlt2]; exact hch
              have hchm : ch ∈ S := by rw [← hch]; exact List.getElem_mem _
              have hsgn : esign ch := Hq.out.2.1 ch hchm
              rw [hch] at hst
              have k1 : w4.cell? ⟨wo.heap.size, 1, none⟩ = some (.int .i64 x.a) := by rw [blk_cell B4.out]; rfl
              have k2 : w4.cell? ⟨wo.heap.size, 2, none⟩ = some (.int .i64 x.b) := by rw [blk_cell B4.out]; rfl
              have k3 : w4.cell? ⟨wo.heap.size, 3, none⟩ = some (.slice da x.data.length dc) := by rw [blk_cell B4.out]; rfl
              clear hch
              obtain ⟨L1, hL1⟩ : ∃ L, L0 ++ (y :: eopnds x.data (dOf l k x) (S.take j) [x.a, x.b]) = L := ⟨_, rfl⟩
              rw [hL1] at R4
              have hrel2 : ∀ z, [x.a, x.b][j]'(by simp; omega) = z → L0 ++ (y :: eopnds x.data (dOf l k x) (S.take (j + 1)) [x.a, x.b]) = L1 ++ eopnd x.data (dOf l k x) ch z := by
                intro z hz; rw [hst, hz, ← hL1]; simp
              have HR2 := Lib.hid hrel2
              have Hjm : Hid (ch ≠ 106 → jumpOk l k x = true) := by
                intro hne
                by_cases hij : isJump x.op = true
                · exfalso; rw [Hq.out.2.2.2 hij] at hchm; exact hne (by simpa using hchm)
                · simp [jumpOk, hij]
              have Hchm := Lib.hid hchm
              clear hst hL1 hrel2 hchm
              rcases (show j = 0 ∨ j = 1 by omega) with rfl | rfl
              · obtain ⟨z, hz⟩ : ∃ z, x.a = z := ⟨_, rfl⟩
                have hz64 : i64 z := by rw [← hz]; exact Hp.out.2.2.2.2.1
                obtain ⟨m, hm⟩ : ∃ m, u64of z = m := ⟨_, rfl⟩
                have hmc : IntKind.u64.wrap z = (m : Int) := by rw [← hm]; exact u64of_cast z
                have hm64 : m < 18446744073709551616 := by rw [← hm]; exact u64of_lt z
                have hR5 := HR2.out z (by rw [← hz]; rfl)
                rw [hz] at k1
                have Hz := Lib.hid (And.intro hz64 hm64)
                have HM := Lib.hid hm
                have HMC := Lib.hid hmc
                have HR5 := Lib.hid hR5
                have HZ := Lib.hid hz
                clear hz64 hm hmc hm64 hR5 HR2 hz k2
                rcases hsgn with rfl | rfl | rfl | rfl | rfl | rfl | rfl | rfl | rfl
                · as_aux_lemma =>
                  have He : Hid (eopnd x.data (dOf l k x) 117 z = uleb m) := by show _ = _; rw [← HM.out]; rfl
                  have hw1 := HMC.out
                  have hU := uleb_le10 Hz.out.2
                  go_wp2_with (go_at_call 10; go_must (refine (Unsigned_any m Hz.out.2 _).mono ?_))
                  rintro e w5 ⟨a5, c5, rfl, ho5, hf5⟩
                  have S5 : Hid (Sl w5 (.slice a5 (uleb m).length c5) (vbs (uleb m))) := own_sl ho5
                  have R5 := Lib.hid (R4.out.call hf5)
                  have B5 := Lib.hid (hf5.get B4.out (by simp))
                  clear ho5 hf5
                  go_wp2_with (at_builtin; go_must (refine OwnR.app_list R5.out S5.out rfl _ _ rfl rfl rfl (by omega) ?_))
                  intro a6 c6 w6 ho6 hf6
                  have B6 := Lib.hid (hf6.get B5.out (own_ne R5.out.own B5.out (by decide)))
                  have R6 := Lib.hid ho6
                  clear ho6 hf6
                  go_wp2_with fail
                  go_roundw
                  case rel => exact ⟨1, a6, _, c6, by omega, by go_num, rfl, by rw [HR5.out, He.out]; exact R6.out, B6.out, fun _ => Hjm.out (by decide)⟩
                  case measure => simp [intOf]; omega
                · as_aux_lemma =>
                  have He : Hid (eopnd x.data (dOf l k x) 115 z = sleb z) := rfl
                  have hU := sleb_le10 Hz.out.1.1 Hz.out.1.2
                  go_wp2_with (go_at_call 16; go_must (refine (Signed_any z Hz.out.1.1 Hz.out.1.2 _).mono ?_))
                  rintro e w5 ⟨a5, c5, rfl, ho5, hf5⟩
                  have S5 : Hid (Sl w5 (.slice a5 (sleb z).length c5) (vbs (sleb z))) := own_sl ho5
                  have R5 := Lib.hid (R4.out.call hf5)
                  have B5 := Lib.hid (hf5.get B4.out (by simp))
                  clear ho5 hf5
                  go_wp2_with (at_builtin; go_must (refine OwnR.app_list R5.out S5.out rfl _ _ rfl rfl rfl (by omega) ?_))
                  intro a6 c6 w6 ho6 hf6
                  have B6 := Lib.hid (hf6.get B5.out (own_ne R5.out.own B5.out (by decide)))
                  have R6 := Lib.hid ho6
                  clear ho6 hf6
                  go_wp2_with fail
                  go_roundw
                  case rel => exact ⟨1, a6, _, c6, by omega, by go_num, rfl, by rw [HR5.out, He.out]; exact R6.out, B6.out, fun _ => Hjm.out (by decide)⟩
                  case measure => simp [intOf]; omega
                · as_aux_lemma =>
                  have He : Hid (eopnd x.data (dOf l k x) 97 z = leL m 8) := by show _ = _; rw [← HM.out]; rfl
                  have hw1 := HMC.out
                  have hU := leL_length 8 m
                  go_wp2_with (go_at_call 48; go_must (refine (Little_lit m 8 8 rfl Hz.out.2 (by decide) _).mono ?_))
                  rintro e w5 ⟨a5, c5, rfl, ho5, hf5⟩
                  have S5 : Hid (Sl w5 (.slice a5 (leL m 8).length c5) (vbs (leL m 8))) := own_sl ho5
                  have R5 := Lib.hid (R4.out.call hf5)
                  have B5 := Lib.hid (hf5.get B4.out (by simp))
                  clear ho5 hf5
                  go_wp2_with (at_builtin; go_must (refine OwnR.app_list R5.out S5.out rfl _ _ rfl rfl rfl (by omega) ?_))
                  intro a6 c6 w6 ho6 hf6
                  have B6 := Lib.hid (hf6.get B5.out (own_ne R5.out.own B5.out (by decide)))
                  have R6 := Lib.hid ho6
                  clear ho6 hf6
                  go_wp2_with fail
                  go_roundw
                  case rel => exact ⟨1, a6, _, c6, by omega, by go_num, rfl, by rw [HR5.out, He.out]; exact R6.out, B6.out, fun _ => Hjm.out (by decide)⟩
                  case measure => simp [intOf]; omega
                · as_aux_lemma =>
                  have hjmp := Hq.out.2.2.1 Hchm.out
                  have hfail : jumpOk l k x = false → exprOk l = false := fun h => by rw [exprOk, Hp.out.2.2.1 h, Bool.and_false]
                  have Hfail := Lib.hid hfail
                  have Hjmp := Lib.hid hjmp.1
                  clear hfail hjmp
                  by_cases hz0 : z < 0
                  · go_wp2_with fail
                    go_ret2
                    refine .inr ⟨Hfail.out ?_, _, rfl, HPf.out.then R4.out.fr⟩
                    rw [jumpOk, HZ.out, Hjmp.out]; simp; omega
                  · by_cases hzl : ((l.length + 1 : Nat) : Int) ≤ z
                    · have hzl2 : (l.length : Int) + 1 ≤ z := by omega
                      go_wp2_with fail
                      go_ret2
                      refine .inr ⟨Hfail.out ?_, _, rfl, HPf.out.then R4.out.fr⟩
                      rw [jumpOk, HZ.out, Hjmp.out]; simp; omega
                    · obtain ⟨zn, rfl⟩ := Int.eq_ofNat_of_zero_le (show 0 ≤ z by omega)
                      have hp1 : w4.cell? ⟨gP, zn, none⟩ = some (.int .i64 ((pl l zn : Nat) : Int)) := HPl.out w4 R4.out.fr zn (by omega)
                      have hp2 : w4.cell? ⟨gP, k + 1, none⟩ = some (.int .i64 ((pl l (k + 1) : Nat) : Int)) := HPl.out w4 R4.out.fr (k + 1) (by omega)
                      have hb1 : pl l zn ≤ 1000000 := by have := pl_mono l (show zn ≤ l.length by omega); have := HPb.out; omega
                      have hb2 : pl l (k + 1) ≤ 1000000 := by have := pl_mono l (show k + 1 ≤ l.length by omega); have := HPb.out; omega
                      obtain ⟨D, hD⟩ : ∃ D : Int, (pl l zn : Int) - (pl l (k + 1) : Int) = D := ⟨_, rfl⟩
                      have hjd : jumpD l k x = D := by rw [jumpD, HZ.out, ← hD]; rfl
                      have hw1 : IntKind.i64.wrap ((k : Int) + 1) = (k : Int) + 1 := by rw [wrap_i64_eq, wrap64_id (by omega) (by omega)]
                      have hw2 : IntKind.i64.wrap ((pl l zn : Int) - (pl l (k + 1) : Int)) = D := by rw [wrap_i64_eq, wrap64_id (by omega) (by omega)]; exact hD
                      have hlz : (zn : Int) < ((l.length + 1 : Nat) : Int) := by omega
                      have hlz2 : (zn : Int) < (l.length : Int) + 1 := by omega
                      have hlk : (k : Int) + 1 < (l.length : Int) + 1 := by omega
                      have hd64 : D % 18446744073709551616 = ((u64of D : Nat) : Int) := u64of_cast D
                      have hd65 : IntKind.u64.wrap D = ((u64of D : Nat) : Int) := hd64
                      have hm64 := u64of_lt D
                      have hzl3 : ¬ ((l.length : Int) + 1 ≤ (zn : Int)) := by omega
                      have hdof : dOf l k x = D := by rw [dOf, Hjmp.out, if_pos rfl, hjd]
                      have He : Hid (eopnd x.data (dOf l k x) 106 zn = leL (u64of D) 2) := by show _ = _; rw [hdof]; rfl
                      have Hjd := Lib.hid hjd
                      clear hjd hdof hD hb1 hb2
                      generalize hmD : u64of D = mD at *
                      have Hm64 := Lib.hid hm64
                      have hU := leL_length 2 mD
                      generalize pl l zn = p1 at *
                      generalize pl l (k + 1) = p2 at *
                      clear hmD hm64
                      by_cases hdr : -32768 ≤ D ∧ D < 32768
                      case neg =>
                        rcases (show D < -32768 ∨ 32768 ≤ D by omega) with hdn | hdn
                        all_goals
                          go_wp2_with fail
                          go_quiet (fail)
                          go_wp2_with fail
                          go_ret2
                          refine .inr ⟨Hfail.out ?_, _, rfl, (HPf.out.then R4.out.fr).drewN _⟩
                          rw [jumpOk, Hjd.out, Hjmp.out]; simp; omega
                      case pos =>
                        obtain ⟨hdr1, hdr2⟩ := hdr
                        have hdr3 : ¬ D < -32768 := by omega
                        have hdr4 : ¬ 32768 ≤ D := by omega
                        go_wp2_with fail
                        go_quiet (fail)
                        go_wp2_with (go_at_call 48; go_must (refine (Little_lit mD 2 2 rfl Hm64.out (by decide) _).mono ?_))
                        rintro e w5 ⟨a5, c5, rfl, ho5, hf5⟩
                        have S5 : Hid (Sl w5 (.slice a5 (leL mD 2).length c5) (vbs (leL mD 2))) := own_sl ho5
                        have hf45 := ((Fr.refl [] w4).drewN _).then hf5
                        have R5 := Lib.hid (R4.out.call hf45)
                        have B5 := Lib.hid (hf45.get B4.out (by simp))
                        clear ho5 hf5 hf45
                        go_wp2_with (at_builtin; go_must (refine OwnR.app_list R5.out S5.out rfl _ _ rfl rfl rfl (by omega) ?_))
                        intro a6 c6 w6 ho6 hf6
                        have B6 := Lib.hid (hf6.get B5.out (own_ne R5.out.own B5.out (by decide)))
                        have R6 := Lib.hid ho6
                        clear ho6 hf6
                        go_wp2_with fail
                        go_roundw
                        case rel => exact ⟨1, a6, _, c6, by omega, by go_num, rfl, by rw [HR5.out, He.out]; exact R6.out, B6.out, fun _ => by rw [jumpOk, Hjd.out, Hjmp.out, HZ.out]; simp; omega⟩
                        case measure => simp [intOf]; omega
                · as_aux_lemma =>
                  obtain ⟨q, hq⟩ : ∃ q, x.data.length = q := ⟨_, rfl⟩
                  have hq64 : q ≤ 64 := by rw [← hq]; exact Hxd.out
                  have hq65 : q < 18446744073709551616 := by omega
                  have hU := uleb_le10 hq65
                  have He : Hid (eopnd x.data (dOf l k x) 98 z = uleb q ++ x.data) := by show _ = _; rw [← hq]; rfl
                  have Hq64 := Lib.hid hq65
                  have Hqe := Lib.hid hq
                  have SD : Hid (∀ w', Fr [] wP w' → Sl w' (.slice da q dc) (vbs x.data)) := fun w' f => by
                    rw [← Hqe.out]
                    exact Hd.out.fr ((Hw.out.then HPf.out).then f) (by simp)
                  have CB : Hid (∀ w' : World, w'.heap[wo.heap.size]? = some (.cells #[.int .i64 x.op, .int .i64 x.a, .int .i64 x.b, .slice da x.data.length dc] 48 (0, 0)) → w'.cell? ⟨wo.heap.size, 3, none⟩ = some (.slice da q dc)) := fun w' h => by
                    rw [blk_cell h, ← Hqe.out]; rfl
                  rw [hq] at k3
                  have hw1 : IntKind.u64.wrap (q : Int) = (q : Int) := by show (q : Int) % 18446744073709551616 = _; omega
                  clear hq hq65
                  go_wp2_with fail
                  go_region_held3 (fun w' => w'.cell? ⟨wo.heap.size, 3, none⟩ = some (.slice da q dc)) (first | exact k3 | exact CB.out _ B7.out | exact CB.out _ B6.out | exact CB.out _ B5.out)
                    ((first | (have _t := R6; refine OwnR.app_step R6.out SD6.out (by rfl) _ _ (by rfl) (by rfl) (by rfl) (by omega) ?_; intro a7 c7 w7 ho7 hf7; have R7 := Lib.hid ho7; have B7 := Lib.hid (hf7.get B6.out (own_ne R6.out.own B6.out (by decide))); clear ho7 hf7)
                            | (have _t := R5; refine OwnR.app_step R5.out S5.out (by rfl) _ _ (by rfl) (by rfl) (by rfl) (by omega) ?_; intro a6 c6 w6 ho6 hf6; have R6 := Lib.hid ho6; have B6 := Lib.hid (hf6.get B5.out (own_ne R5.out.own B5.out (by decide))); have SD6 := Lib.hid (SD.out _ R6.out.fr); clear ho6 hf6)
                            | (go_at_call 10; refine (Unsigned_any q Hq64.out _).mono ?_; rintro e w5 ⟨a5, c5, rfl, ho5, hf5⟩; have S5 : Hid (Sl w5 (.slice a5 (uleb q).length c5) (vbs (uleb q))) := own_sl ho5; have F5 : Hid (Fr [] w4 w5) := ((Fr.refl [] w4).drew).then hf5; have R5 := Lib.hid (R4.out.call F5.out); have B5 := Lib.hid (F5.out.get B4.out (by simp)); clear ho5 hf5)))
                  go_wp2_with fail
                  go_roundw
                  case rel => exact ⟨1, a7, _, c7, by omega, by go_num, rfl, by rw [HR5.out, He.out, ← List.append_assoc]; exact R7.out, B7.out, fun _ => Hjm.out (by decide)⟩
                  case measure => simp [intOf]; omega
                · as_aux_lemma =>
                  have He : Hid (eopnd x.data (dOf l k x) 49 z = leL m 1) := by show _ = _; rw [← HM.out]; rfl
                  have hw1 := HMC.out
                  have hU := leL_length 1 m
                  have hw2 : IntKind.u8.wrap 1 = 1 := by decide
                  have hw3 : IntKind.i64.wrap 1 = 1 := by decide
                  go_wp2_with (go_at_call 48; go_must (refine (Little_lit m 1 1 rfl Hz.out.2 (by decide) _).mono ?_))
                  rintro e w5 ⟨a5, c5, rfl, ho5, hf5⟩
                  have S5 : Hid (Sl w5 (.slice a5 (leL m 1).length c5) (vbs (leL m 1))) := own_sl ho5
                  have R5 := Lib.hid (R4.out.call hf5)
                  have B5 := Lib.hid (hf5.get B4.out (by simp))
                  clear ho5 hf5
                  go_wp2_with (at_builtin; go_must (refine OwnR.app_list R5.out S5.out rfl _ _ rfl rfl rfl (by omega) ?_))
                  intro a6 c6 w6 ho6 hf6
                  have B6 := Lib.hid (hf6.get B5.out (own_ne R5.out.own B5.out (by decide)))
                  have R6 := Lib.hid ho6
                  clear ho6 hf6
                  go_wp2_with fail
                  go_roundw
                  case rel => exact ⟨1, a6, _, c6, by omega, by go_num, rfl, by rw [HR5.out, He.out]; exact R6.out, B6.out, fun _ => Hjm.out (by decide)⟩
                  case measure => simp [intOf]; omega
                · as_aux_lemma =>
                  have He : Hid (eopnd x.data (dOf l k x) 50 z = leL m 2) := by show _ = _; rw [← HM.out]; rfl
                  have hw1 := HMC.out
                  have hU := leL_length 2 m
                  have hw2 : IntKind.u8.wrap 2 = 2 := by decide
                  have hw3 : IntKind.i64.wrap 2 = 2 := by decide
                  go_wp2_with (go_at_call 48; go_must (refine (Little_lit m 2 2 rfl Hz.out.2 (by decide) _).mono ?_))
                  rintro e w5 ⟨a5, c5, rfl, ho5, hf5⟩
                  have S5 : Hid (Sl w5 (.slice a5 (leL m 2).length c5) (vbs (leL m 2))) := own_sl ho5
                  have R5 := Lib.hid (R4.out.call hf5)
                  have B5 := Lib.hid (hf5.get B4.out (by simp))
                  clear ho5 hf5
                  go_wp2_with (at_builtin; go_must (refine OwnR.app_list R5.out S5.out rfl _ _ rfl rfl rfl (by omega) ?_))
                  intro a6 c6 w6 ho6 hf6
                  have B6 := Lib.hid (hf6.get B5.out (own_ne R5.out.own B5.out (by decide)))
                  have R6 := Lib.hid ho6
                  clear ho6 hf6
                  go_wp2_with fail
                  go_roundw
                  case rel => exact ⟨1, a6, _, c6, by omega, by go_num, rfl, by rw [HR5.out, He.out]; exact R6.out, B6.out, fun _ => Hjm.out (by decide)⟩
                  case measure => simp [intOf]; omega
                · as_aux_lemma =>
                  have He : Hid (eopnd x.data (dOf l k x) 52 z = leL m 4) := by show _ = _; rw [← HM.out]; rfl
                  have hw1 := HMC.out
                  have hU := leL_length 4 m
                  have hw2 : IntKind.u8.wrap 4 = 4 := by decide
                  have hw3 : IntKind.i64.wrap 4 = 4 := by decide
                  go_wp2_with (go_at_call 48; go_must (refine (Little_lit m 4 4 rfl Hz.out.2 (by decide) _).mono ?_))
                  rintro e w5 ⟨a5, c5, rfl, ho5, hf5⟩
                  have S5 : Hid (Sl w5 (.slice a5 (leL m 4).length c5) (vbs (leL m 4))) := own_sl ho5
                  have R5 := Lib.hid (R4.out.call hf5)
                  have B5 := Lib.hid (hf5.get B4.out (by simp))
                  clear ho5 hf5
                  go_wp2_with (at_builtin; go_must (refine OwnR.app_list R5.out S5.out rfl _ _ rfl rfl rfl (by omega) ?_))
                  intro a6 c6 w6 ho6 hf6
                  have B6 := Lib.hid (hf6.get B5.out (own_ne R5.out.own B5.out (by decide)))
                  have R6 := Lib.hid ho6
                  clear ho6 hf6
                  go_wp2_with fail
                  go_roundw
                  case rel => exact ⟨1, a6, _, c6, by omega, by go_num, rfl, by rw [HR5.out, He.out]; exact R6.out, B6.out, fun _ => Hjm.out (by decide)⟩
                  case measure => simp [intOf]; omega
                · as_aux_lemma =>
                  have He : Hid (eopnd x.data (dOf l k x) 56 z = leL m 8) := by show _ = _; rw [← HM.out]; rfl
                  have hw1 := HMC.out
                  have hU := leL_length 8 m
                  have hw2 : IntKind.u8.wrap 8 = 8 := by decide
                  have hw3 : IntKind.i64.wrap 8 = 8 := by decide
                  go_wp2_with (go_at_call 48; go_must (refine (Little_lit m 8 8 rfl Hz.out.2 (by decide) _).mono ?_))
                  rintro e w5 ⟨a5, c5, rfl, ho5, hf5⟩
                  have S5 : Hid (Sl w5 (.slice a5 (leL m 8).length c5) (vbs (leL m 8))) := own_sl ho5
                  have R5 := Lib.hid (R4.out.call hf5)
                  have B5 := Lib.hid (hf5.get B4.out (by simp))
                  clear ho5 hf5
                  go_wp2_with (at_builtin; go_must (refine OwnR.app_list R5.out S5.out rfl _ _ rfl rfl rfl (by omega) ?_))
                  intro a6 c6 w6 ho6 hf6
                  have B6 := Lib.hid (hf6.get B5.out (own_ne R5.out.own B5.out (by decide)))
                  have R6 := Lib.hid ho6
                  clear ho6 hf6
                  go_wp2_with fail
                  go_roundw
                  case rel => exact ⟨1, a6, _, c6, by omega, by go_num, rfl, by rw [HR5.out, He.out]; exact R6.out, B6.out, fun _ => Hjm.out (by decide)⟩
                  case measure => simp [intOf]; omega
              · obtain ⟨z, hz⟩ : ∃ z, x.b = z := ⟨_, rfl⟩
                have hz64 : i64 z := by rw [← hz]; exact Hp.out.2.2.2.2.2
                obtain ⟨m, hm⟩ : ∃ m, u64of z = m := ⟨_, rfl⟩
                have hmc : IntKind.u64.wrap z = (m : Int) := by rw [← hm]; exact u64of_cast z
                have hm64 : m < 18446744073709551616 := by rw [← hm]; exact u64of_lt z
                have hR5 := HR2.out z (by rw [← hz]; rfl)
                rw [hz] at k2
                have Hz := Lib.hid (And.intro hz64 hm64)
                have HM := Lib.hid hm
                have HMC := Lib.hid hmc
                have HR5 := Lib.hid hR5
                have HZ := Lib.hid hz
                clear hz64 hm hmc hm64 hR5 HR2 hz
                rcases hsgn with rfl | rfl | rfl | rfl | rfl | rfl | rfl | rfl | rfl
                · as_aux_lemma =>
                  have He : Hid (eopnd x.data (dOf l k x) 117 z = uleb m) := by show _ = _; rw [← HM.out]; rfl
                  have hw1 := HMC.out
                  have hU := uleb_le10 Hz.out.2
                  go_wp2_with (go_at_call 10; go_must (refine (Unsigned_any m Hz.out.2 _).mono ?_))
                  rintro e w5 ⟨a5, c5, rfl, ho5, hf5⟩
                  have S5 : Hid (Sl w5 (.slice a5 (uleb m).length c5) (vbs (uleb m))) := own_sl ho5
                  have R5 := Lib.hid (R4.out.call hf5)
                  have B5 := Lib.hid (hf5.get B4.out (by simp))
                  clear ho5 hf5
                  go_wp2_with (at_builtin; go_must (refine OwnR.app_list R5.out S5.out rfl _ _ rfl rfl rfl (by omega) ?_))
                  intro a6 c6 w6 ho6 hf6
                  have B6 := Lib.hid (hf6.get B5.out (own_ne R5.out.own B5.out (by decide)))
                  have R6 := Lib.hid ho6
                  clear ho6 hf6
                  go_wp2_with fail
                  go_roundw
                  case rel => exact ⟨2, a6, _, c6, by omega, by go_num, rfl, by rw [HR5.out, He.out]; exact R6.out, B6.out, fun _ => Hjm.out (by decide)⟩
                  case measure => simp [intOf]; omega
                · as_aux_lemma =>
                  have He : Hid (eopnd x.data (dOf l k x) 115 z = sleb z) := rfl
                  have hU := sleb_le10 Hz.out.1.1 Hz.out.1.2
                  go_wp2_with (go_at_call 16; go_must (refine (Signed_any z Hz.out.1.1 Hz.out.1.2 _).mono ?_))
                  rintro e w5 ⟨a5, c5, rfl, ho5, hf5⟩
                  have S5 : Hid (Sl w5 (.slice a5 (sleb z).length c5) (vbs (sleb z))) := own_sl ho5
                  have R5 := Lib.hid (R4.out.call hf5)
                  have B5 := Lib.hid (hf5.get B4.out (by simp))
                  clear ho5 hf5
                  go_wp2_with (at_builtin; go_must (refine OwnR.app_list R5.out S5.out rfl _ _ rfl rfl rfl (by omega) ?_))
                  intro a6 c6 w6 ho6 hf6
                  have B6 := Lib.hid (hf6.get B5.out (own_ne R5.out.own B5.out (by decide)))
                  have R6 := Lib.hid ho6
                  clear ho6 hf6
                  go_wp2_with fail
                  go_roundw
                  case rel => exact ⟨2, a6, _, c6, by omega, by go_num, rfl, by rw [HR5.out, He.out]; exact R6.out, B6.out, fun _ => Hjm.out (by decide)⟩
                  case measure => simp [intOf]; omega
                · as_aux_lemma =>
                  have He : Hid (eopnd x.data (dOf l k x) 97 z = leL m 8) := by show _ = _; rw [← HM.out]; rfl
                  have hw1 := HMC.out
                  have hU := leL_length 8 m
                  go_wp2_with (go_at_call 48; go_must (refine (Little_lit m 8 8 rfl Hz.out.2 (by decide) _).mono ?_))
                  rintro e w5 ⟨a5, c5, rfl, ho5, hf5⟩
                  have S5 : Hid (Sl w5 (.slice a5 (leL m 8).length c5) (vbs (leL m 8))) := own_sl ho5
                  have R5 := Lib.hid (R4.out.call hf5)
                  have B5 := Lib.hid (hf5.get B4.out (by simp))
                  clear ho5 hf5
                  go_wp2_with (at_builtin; go_must (refine OwnR.app_list R5.out S5.out rfl _ _ rfl rfl rfl (by omega) ?_))
                  intro a6 c6 w6 ho6 hf6
                  have B6 := Lib.hid (hf6.get B5.out (own_ne R5.out.own B5.out (by decide)))
                  have R6 := Lib.hid ho6
                  clear ho6 hf6
                  go_wp2_with fail
                  go_roundw
                  case rel => exact ⟨2, a6, _, c6, by omega, by go_num, rfl, by rw [HR5.out, He.out]; exact R6.out, B6.out, fun _ => Hjm.out (by decide)⟩
                  case measure => simp [intOf]; omega
                · exfalso
                  rw [(Hq.out.2.2.1 Hchm.out).2] at hlt2
                  simp at hlt2
                · as_aux_lemma =>
                  obtain ⟨q, hq⟩ : ∃ q, x.data.length = q := ⟨_, rfl⟩
                  have hq64 : q ≤ 64 := by rw [← hq]; exact Hxd.out
                  have hq65 : q < 18446744073709551616 := by omega
                  have hU := uleb_le10 hq65
                  have He : Hid (eopnd x.data (dOf l k x) 98 z = uleb q ++ x.data) := by show _ = _; rw [← hq]; rfl
                  have Hq64 := Lib.hid hq65
                  have Hqe := Lib.hid hq
                  have SD : Hid (∀ w', Fr [] wP w' → Sl w' (.slice da q dc) (vbs x.data)) := fun w' f => by
                    rw [← Hqe.out]
                    exact Hd.out.fr ((Hw.out.then HPf.out).then f) (by simp)
                  have CB : Hid (∀ w' : World, w'.heap[wo.heap.size]? = some (.cells #[.int .i64 x.op, .int .i64 x.a, .int .i64 x.b, .slice da x.data.length dc] 48 (0, 0)) → w'.cell? ⟨wo.heap.size, 3, none⟩ = some (.slice da q dc)) := fun w' h => by
                    rw [blk_cell h, ← Hqe.out]; rfl
                  rw [hq] at k3
                  have hw1 : IntKind.u64.wrap (q : Int) = (q : Int) := by show (q : Int) % 18446744073709551616 = _; omega
                  clear hq hq65
                  go_wp2_with fail
                  go_region_held3 (fun w' => w'.cell? ⟨wo.heap.size, 3, none⟩ = some (.slice da q dc)) (first | exact k3 | exact CB.out _ B7.out | exact CB.out _ B6.out | exact CB.out _ B5.out)
                    ((first | (have _t := R6; refine OwnR.app_step R6.out SD6.out (by rfl) _ _ (by rfl) (by rfl) (by rfl) (by omega) ?_; intro a7 c7 w7 ho7 hf7; have R7 := Lib.hid ho7; have B7 := Lib.hid (hf7.get B6.out (own_ne R6.out.own B6.out (by decide))); clear ho7 hf7)
                            | (have _t := R5; refine OwnR.app_step R5.out S5.out (by rfl) _ _ (by rfl) (by rfl) (by rfl) (by omega) ?_; intro a6 c6 w6 ho6 hf6; have R6 := Lib.hid ho6; have B6 := Lib.hid (hf6.get B5.out (own_ne R5.out.own B5.out (by decide))); have SD6 := Lib.hid (SD.out _ R6.out.fr); clear ho6 hf6)
                            | (go_at_call 10; refine (Unsigned_any q Hq64.out _).mono ?_; rintro e w5 ⟨a5, c5, rfl, ho5, hf5⟩; have S5 : Hid (Sl w5 (.slice a5 (uleb q).length c5) (vbs (uleb q))) := own_sl ho5; have F5 : Hid (Fr [] w4 w5) := ((Fr.refl [] w4).drew).then hf5; have R5 := Lib.hid (R4.out.call F5.out); have B5 := Lib.hid (F5.out.get B4.out (by simp)); clear ho5 hf5)))
                  go_wp2_with fail
                  go_roundw
                  case rel => exact ⟨2, a7, _, c7, by omega, by go_num, rfl, by rw [HR5.out, He.out, ← List.append_assoc]; exact R7.out, B7.out, fun _ => Hjm.out (by decide)⟩
                  case measure => simp [intOf]; omega
                · as_aux_lemma =>
                  have He : Hid (eopnd x.data (dOf l k x) 49 z = leL m 1) := by show _ = _; rw [← HM.out]; rfl
                  have hw1 := HMC.out
                  have hU := leL_length 1 m
                  have hw2 : IntKind.u8.wrap 1 = 1 := by decide
                  have hw3 : IntKind.i64.wrap 1 = 1 := by decide
                  go_wp2_with (go_at_call 48; go_must (refine (Little_lit m 1 1 rfl Hz.out.2 (by decide) _).mono ?_))
                  rintro e w5 ⟨a5, c5, rfl, ho5, hf5⟩
                  have S5 : Hid (Sl w5 (.slice a5 (leL m 1).length c5) (vbs (leL m 1))) := own_sl ho5
                  have R5 := Lib.hid (R4.out.call hf5)
                  have B5 := Lib.hid (hf5.get B4.out (by simp))
                  clear ho5 hf5
                  go_wp2_with (at_builtin; go_must (refine OwnR.app_list R5.out S5.out rfl _ _ rfl rfl rfl (by omega) ?_))
                  intro a6 c6 w6 ho6 hf6
                  have B6 := Lib.hid (hf6.get B5.out (own_ne R5.out.own B5.out (by decide)))
                  have R6 := Lib.hid ho6
                  clear ho6 hf6
                  go_wp2_with fail
                  go_roundw
                  case rel => exact ⟨2, a6, _, c6, by omega, by go_num, rfl, by rw [HR5.out, He.out]; exact R6.out, B6.out, fun _ => Hjm.out (by decide)⟩
                  case measure => simp [intOf]; omega
                · as_aux_lemma =>
                  have He : Hid (eopnd x.data (dOf l k x) 50 z = leL m 2) := by show _ = _; rw [← HM.out]; rfl
                  have hw1 := HMC.out
                  have hU := leL_length 2 m
                  have hw2 : IntKind.u8.wrap 2 = 2 := by decide
                  have hw3 : IntKind.i64.wrap 2 = 2 := by decide
                  go_wp2_with (go_at_call 48; go_must (refine (Little_lit m 2 2 rfl Hz.out.2 (by decide) _).mono ?_))
                  rintro e w5 ⟨a5, c5, rfl, ho5, hf5⟩
                  have S5 : Hid (Sl w5 (.slice a5 (leL m 2).length c5) (vbs (leL m 2))) := own_sl ho5
                  have R5 := Lib.hid (R4.out.call hf5)
                  have B5 := Lib.hid (hf5.get B4.out (by simp))
                  clear ho5 hf5
                  go_wp2_with (at_builtin; go_must (refine OwnR.app_list R5.out S5.out rfl _ _ rfl rfl rfl (by omega) ?_))
                  intro a6 c6 w6 ho6 hf6
                  have B6 := Lib.hid (hf6.get B5.out (own_ne R5.out.own B5.out (by decide)))
                  have R6 := Lib.hid ho6
                  clear ho6 hf6
                  go_wp2_with fail
                  go_roundw
                  case rel => exact ⟨2, a6, _, c6, by omega, by go_num, rfl, by rw [HR5.out, He.out]; exact R6.out, B6.out, fun _ => Hjm.out (by decide)⟩
                  case measure => simp [intOf]; omega
                · as_aux_lemma =>
                  have He : Hid (eopnd x.data (dOf l k x) 52 z = leL m 4) := by show _ = _; rw [← HM.out]; rfl
                  have hw1 := HMC.out
                  have hU := leL_length 4 m
                  have hw2 : IntKind.u8.wrap 4 = 4 := by decide
                  have hw3 : IntKind.i64.wrap 4 = 4 := by decide
                  go_wp2_with (go_at_call 48; go_must (refine (Little_lit m 4 4 rfl Hz.out.2 (by decide) _).mono ?_))
                  rintro e w5 ⟨a5, c5, rfl, ho5, hf5⟩
                  have S5 : Hid (Sl w5 (.slice a5 (leL m 4).length c5) (vbs (leL m 4))) := own_sl ho5
                  have R5 := Lib.hid (R4.out.call hf5)
                  have B5 := Lib.hid (hf5.get B4.out (by simp))
                  clear ho5 hf5
                  go_wp2_with (at_builtin; go_must (refine OwnR.app_list R5.out S5.out rfl _ _ rfl rfl rfl (by omega) ?_))
                  intro a6 c6 w6 ho6 hf6
                  have B6 := Lib.hid (hf6.get B5.out (own_ne R5.out.own B5.out (by decide)))
                  have R6 := Lib.hid ho6
                  clear ho6 hf6
                  go_wp2_with fail
                  go_roundw
                  case rel => exact ⟨2, a6, _, c6, by omega, by go_num, rfl, by rw [HR5.out, He.out]; exact R6.out, B6.out, fun _ => Hjm.out (by decide)⟩
                  case measure => simp [intOf]; omega
                · as_aux_lemma =>
                  have He : Hid (eopnd x.data (dOf l k x) 56 z = leL m 8) := by show _ = _; rw [← HM.out]; rfl
                  have hw1 := HMC.out
                  have hU := leL_length 8 m
                  have hw2 : IntKind.u8.wrap 8 = 8 := by decide
                  have hw3 : IntKind.i64.wrap 8 = 8 := by decide
                  go_wp2_with (go_at_call 48; go_must (refine (Little_lit m 8 8 rfl Hz.out.2 (by decide) _).mono ?_))
                  rintro e w5 ⟨a5, c5, rfl, ho5, hf5⟩
                  have S5 : Hid (Sl w5 (.slice a5 (leL m 8).length c5) (vbs (leL m 8))) := own_sl ho5
                  have R5 := Lib.hid (R4.out.call hf5)
                  have B5 := Lib.hid (hf5.get B4.out (by simp))
                  clear ho5 hf5
                  go_wp2_with (at_builtin; go_must (refine OwnR.app_list R5.out S5.out rfl _ _ rfl rfl rfl (by omega) ?_))
                  intro a6 c6 w6 ho6 hf6
                  have B6 := Lib.hid (hf6.get B5.out (own_ne R5.out.own B5.out (by decide)))
                  have R6 := Lib.hid ho6
                  clear ho6 hf6
                  go_wp2_with fail
                  go_roundw
                  case rel => exact ⟨2, a6, _, c6, by omega, by go_num, rfl, by rw [HR5.out, He.out]; exact R6.out, B6.out, fun _ => Hjm.out (by decide)⟩
                  case measure => simp [intOf]; omega
    case pos =>
      obtain ⟨g, o, da, dc, rfl, d0, d1, d2, d3, hd, hi0, hi1, hi2⟩ := call_at H.out (Hw.out.then Hfr.out) k hlt
      have hstep := all_take_succ (fun c => knownB c.op c.a c.data.length) l k hlt
      have hstop := all_false (fun c => knownB c.op c.a c.data.length) l k hlt
      have hpl := pl_succ l k hlt
      generalize l[k] = x at *
      have Hs := Lib.hid (And.intro hstep (And.intro hstop (And.intro hpl (And.intro hi0 (And.intro hi1 hi2)))))
      clear hstep hstop hpl hi0 hi1 hi2 hd
      cases hkn : knownB x.op x.a x.data.length
      case false =>
        as_aux_lemma =>
        have HK := Lib.hid hkn
        clear hkn
        go_wp2_with (go_at_call 52; go_must (refine (Known_any _ _ _ _ _ _ _).mono ?_))
        rw [HK.out]
        rintro e w1 ⟨rfl, hf1⟩
        go_wp2
        go_ret2
        refine .inr ⟨?_, _, rfl, (Hfr.out.alloc _).then hf1⟩
        have := Hs.out.2.1 HK.out
        simp only [exprOk, knownAll, this, Bool.false_and]
      case true =>
        as_aux_lemma =>
        have HK := Lib.hid hkn
        clear hkn
        have hxd : x.data.length ≤ 64 := by have := HK.out; simp [knownB] at this; exact this.1.2
        have Hxd := Lib.hid hxd
        clear hxd
        obtain ⟨g1, cp1, hv1, -, hg1⟩ := Hown.out.form (by omega)
        simp only [Value.slice.injEq] at hv1
        obtain ⟨rfl, -, rfl⟩ := hv1
        have hlast := Hown.out.cellAt k (by omega)
        rw [pls_get l (k + 1) k (by omega)] at hlast
        obtain ⟨q, hq⟩ : ∃ q, pl l k = q := ⟨_, rfl⟩
        obtain ⟨z, hz⟩ : ∃ z, eSz x = z := ⟨_, rfl⟩
        rw [hq] at hlast hlen
        have hz149 : z ≤ 149 := by rw [← hz]; exact eSz_le x Hxd.out Hs.out.2.2.2.2.1 Hs.out.2.2.2.2.2
        have Hq := Lib.hid hq
        have Hz := Lib.hid hz
        clear hq hz
        go_wp2_with (go_at_call 52; go_must (refine (Known_any _ _ _ _ _ _ _).mono ?_))
        rw [HK.out]
        rintro e w1 ⟨rfl, hf1⟩
        have hb := hf1.get (blk_new _ _) (by simp)
        have k0 : w1.cell? ⟨wo.heap.size, 0, none⟩ = some (.int .i64 x.op) := by rw [blk_cell hb]; rfl
        have k1 : w1.cell? ⟨wo.heap.size, 1, none⟩ = some (.int .i64 x.a) := by rw [blk_cell hb]; rfl
        have k2 : w1.cell? ⟨wo.heap.size, 2, none⟩ = some (.int .i64 x.b) := by rw [blk_cell hb]; rfl
        have k3 : w1.cell? ⟨wo.heap.size, 3, none⟩ = some (.slice da x.data.length dc) := by rw [blk_cell hb]; rfl
        have kl : w1.cell? ⟨g1, k, none⟩ = some (.int .i64 (q : Int)) := hf1.cell (((Fr.refl [] _).alloc _).cell hlast (by simp)) (by simp)
        have F1 := Lib.hid ((Hfr.out.alloc _).then hf1)
        have O1 := Lib.hid (own_fr (own_fr Hown.out ((Fr.refl [] _).alloc _) (by simp)) hf1 (by simp))
        clear hb hlast hf1 d0 d1 d2 d3
        have hwr : IntKind.i64.wrap ((q : Int) + (z : Int)) = ((q + z : Nat) : Int) := by rw [wrap_i64_eq, wrap64_id (by omega) (by omega)]; omega
        have HW := Lib.hid hwr
        clear hwr
        go_wp2_with fail
        have hs1 : IntKind.i64.wrap (((k + 1 : Nat) : Int) - 1) = (k : Int) := by rw [wrap_i64_eq, wrap64_id (by omega) (by omega)]; omega
        have hs2 : IntKind.i64.wrap ((k : Int) + 1 - 1) = (k : Int) := by rw [wrap_i64_eq, wrap64_id (by omega) (by omega)]; omega
        have hs3 : (k : Int) < ((k + 1 : Nat) : Int) := by omega
        have hs4 : (k : Int) < (k : Int) + 1 := by omega
        have hs5 : IntKind.i64.wrap (k : Int) = (k : Int) := by rw [wrap_i64_eq, wrap64_id (by omega) (by omega)]
        have HB : Hid (∀ w', Fr [] w1 w' → w'.cell? ⟨g1, k, none⟩ = some (.int .i64 (q : Int))) := fun w' f => f.cell kl (by simp)
        have HA : Hid (∀ bs w', Fr bs w1 w' → wo.heap.size ∉ bs → w'.cell? ⟨wo.heap.size, 0, none⟩ = some (.int .i64 x.op) ∧ w'.cell? ⟨wo.heap.size, 1, none⟩ = some (.int .i64 x.a) ∧ w'.cell? ⟨wo.heap.size, 2, none⟩ = some (.int .i64 x.b) ∧ w'.cell? ⟨wo.heap.size, 3, none⟩ = some (.slice da x.data.length dc)) := fun bs w' f hn => ⟨f.cell k0 hn, f.cell k1 hn, f.cell k2 hn, f.cell k3 hn⟩
        have Hng : Hid (wo.heap.size ∉ (Value.slice (some ⟨g1, 0, none⟩) (k + 1) c).ownBlock.toList) := by show _ ∉ _; simp [Value.ownBlock]; omega
        have Kxx := Lib.hid (And.intro Hs.out.2.2.2.2.1 Hs.out.2.2.2.2.2)
        go_region_held3 (fun w' => w'.cell? ⟨g1, k, none⟩ = some (.int .i64 (q : Int)) ∧ w'.cell? ⟨wo.heap.size, 0, none⟩ = some (.int .i64 x.op) ∧ w'.cell? ⟨wo.heap.size, 1, none⟩ = some (.int .i64 x.a) ∧ w'.cell? ⟨wo.heap.size, 2, none⟩ = some (.int .i64 x.b) ∧ w'.cell? ⟨wo.heap.size, 3, none⟩ = some (.slice da x.data.length dc))
          (first | exact ⟨HB.out _ (Fr.refl [] w1).drew, HA.out _ _ (Fr.refl [] w1).drew (by simp)⟩ | exact ⟨C5.out, HA.out _ _ F5.out Hng.out⟩ | exact ⟨HB.out _ (F3.out.alloc _), HA.out _ _ (F3.out.alloc _) (by simp)⟩ | exact ⟨HB.out _ F3.out, HA.out _ _ F3.out (by simp)⟩)
          ((first | (go_at_call 53; refine (esize_any x _ _ _ Hxd.out Kxx.out.1 Kxx.out.2).mono ?_; rw [Hz.out]; rintro e w3 ⟨rfl, hf3⟩; have F3 : Hid (Fr [] w1 w3) := ((Fr.refl [] w1).drew).then hf3; have O3 := Lib.hid (own_fr (O1.out.drew) hf3 (by simp)); clear hf3)
                  | (have _t := O3; refine step_app3 sliceI _ (by rfl) _ _ (by rfl) w.heap.size _ (k + 1) (pls l (k + 1)) (by rfl) (O3.out.alloc _) (some ⟨w3.heap.size, 0, none⟩) 1 1 [.int .i64 (IntKind.i64.wrap ((q : Int) + (z : Int)))] (by rfl) (by rfl) (fun h => by cases h) (news_blk (blk_new w3 _)) (by simp [Value.oneCell']) (by omega) (by decide) (Nat.le_trans (Nat.le_trans F1.out.size F3.out.size) (by simp)) ?_; intro a5 c5 w5 ho5 hf5 hg5 hc5; have O5 := Lib.hid ho5; have F5 : Hid (Fr (Value.slice (some ⟨g1, 0, none⟩) (k + 1) c).ownBlock.toList w1 w5) := (F3.out.alloc _).mono (fun i hi _ => by cases hi) |>.trans hf5 (fun i hi _ => hi); have C5 : Hid (w5.cell? ⟨g1, k, none⟩ = some (.int .i64 (q : Int))) := (by show _ = _; rw [← Hq.out]; exact hc5 g1 rfl k _ (pls_get l (k + 1) k (by omega))); clear ho5 hf5 hg5 hc5)))
        go_wp2_with fail
        refine ⟨⟨k + 1, a5, c5, by omega, by go_num, rfl, ?_, ?_, ?_, F1.out.app O1.out (Nat.le_refl _) F5.out⟩, by simp [intOf]; omega⟩
        · rw [knownAll, Hs.out.1, show (l.take k).all (fun c => knownB c.op c.a c.data.length) = true from Hkn.out, HK.out]; rfl
        · rw [Hs.out.2.2.1, Hq.out, Hz.out]; omega
        · rw [pls_succ, Hs.out.2.2.1, Hq.out, Hz.out, ← HW.out]; exact O5.out
end Go.Proofs.Ytahohmdfllgedaa
