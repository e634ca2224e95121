/- dvframe.Parse over a section of right entries: all frames, each with its common entry. -/
import Derived.Test.YtahohmdfllgedaaPars7
namespace Go.Proofs.Ytahohmdfllgedaa
open Go.RowKit

set_option maxHeartbeats 1000000 in
theorem newFrameIndex_any (w : World) : Calls Try.prog 67 #[] w fun e w' => e = .returned (.slice (some ⟨w.heap.size, 0, none⟩) 0 1000) ∧
    w'.ownsRow w.heap.size 96 1 (.slice (some ⟨w.heap.size, 0, none⟩) 0 1000) 0 [] ∧ Fr [] w w' := by
  obtain ⟨i, hi, hz, hs, hby⟩ := info_parts slicePF.info
  obtain ⟨w', hrun, ho, hg⟩ := run_makeSlice_owned (P := Try.prog) (w := w) w.heap.size 89 96 i (.pointer none) 1 Try.underlying89 hi hz hs .i64 .i64 1000 (by decide) (by rw [hby]; decide) (by decide) (Nat.le_refl _)
  have hrun2 : (Instr.makeSlice 89 (.int .i64 0) (.int .i64 1000)).run Try.prog w = .ok (.slice (some ⟨w.heap.size, 0, none⟩) 0 1000) w' := hrun
  have Ho := Lib.hid ho
  have Hg := Lib.hid hg
  clear hrun ho hg hi hz hs hby
  go_enter Try.func67, Try.ntmps67
  go_wp2_with fail
  go_ret
  exact ⟨rfl, Ho.out, grown_fr Hg.out⟩

def curOff (w : World) (bb : Nat) : Nat := match w.cell? ⟨bb, 1, none⟩ with | some (.int _ n) => n.toNat | _ => 0
theorem curOff_buf {w : World} {b : Nat} {v : Value} {l : List UInt8} {off : Nat} {rd : Bool} (h : BufR w b v l off rd) : curOff w b = off := by
  have : w.cell? ⟨b, 1, none⟩ = some (.int .i64 (off : Int)) := by rw [blk_cell h.1]; rfl
  simp [curOff, this]

abbrev fnL : Value := .func (.func 68) #[] #[]
abbrev fnC : Value := .func (.func 84) #[] #[]
abbrev fnF : Value := .func (.func 85) #[] #[]

/-- Where the loop stands. -/
def PInv (w0 w : World) (pb bb mb : Nat) (v : Value) (D : List UInt8) (is : List Item) (fn : Value) : Prop :=
  (∃ k cv fv ae ce ptrs f rd, fn = fnL ∧ k ≤ is.length ∧ PA w0 w pb bb mb v D is k cv fv ae ce ptrs f rd) ∨
  (∃ w1 k cv fv ae ce ptrs f rd rd' cb c body z, fn = fnC ∧ is[k]? = some (.cie c) ∧ body = [UInt8.ofNat c.version.toNat, 0] ++ uleb c.code ++ sleb c.offset ++ uleb c.ret.toNat ++ (callsL c.calls ++ List.replicate z 0) ∧
    PB w0 w1 w pb bb mb v D is k cv fv ae ce ptrs f rd rd' cb body.length body) ∨
  (∃ w1 k cv fv ae ce ptrs f rd rd' fb cb n c x body z, fn = fnF ∧ is[k]? = some (.fde n c x) ∧ body = leL x.start 8 ++ leL x.size 8 ++ (callsL x.calls ++ List.replicate z 0) ∧ w0.heap.size ≤ cb ∧ CieAt w1 v cb c ∧
    PF w0 w1 w pb bb mb v D is k cv fv ae ce ptrs f rd rd' fb cb body.length body)

/-- What the loop wants of the entries. -/
structure ItemsOk (is : List Item) (D : List UInt8) : Prop where
  hD : D = itemsL is
  hl : D.length < 1073741824
  hc : ∀ (k : Nat) (c : LCommon), is[k]? = some (.cie c) → rcB c = true
  hf : ∀ (k n : Nat) (c : LCommon) (x : LFrame), is[k]? = some (.fde n c x) → frB x = true ∧ ∃ j, j < k ∧ is[j]? = some (.cie c) ∧ n = offs is j
  hn : (fdes is).length ≤ 1000

/-- Behind a call of the loop: what the walk reads next, and the loop's state with its offset. -/
def PNext (w0 : World) (pb bb mb : Nat) (v : Value) (D : List UInt8) (is : List Item) (off : Nat) (e : Ending) (w' : World) : Prop :=
  ∃ fn, e = .returned fn ∧ PInv w0 w' pb bb mb v D is fn ∧ off < curOff w' bb ∧ curOff w' bb ≤ D.length ∧ w'.cell? ⟨pb, 10, none⟩ = some .nilIface ∧ (fn = fnL ∨ fn = fnC ∨ fn = fnF)

section
variable {w0 w : World} {pb bb mb : Nat} {v : Value} {D : List UInt8} {is : List Item} {k : Nat} {cv fv : Value} {ae : Option Addr} {ce : Nat} {ptrs : List Nat} {f : Int → Option Value} {rd : Bool}
theorem PA.drewN (h : PA w0 w pb bb mb v D is k cv fv ae ce ptrs f rd) (n : Nat) : PA w0 (w.drewN n) pb bb mb v D is k cv fv ae ce ptrs f rd :=
  ⟨h.pc, h.bf, h.mp, h.own, h.fr.drewN n, h.vl, h.gp, h.gb, h.gm, h.cies, h.fl, h.fd, h.nd⟩
theorem PB.drewN {w1 : World} {rd' : Bool} {cb L : Nat} {body : List UInt8} (h : PB w0 w1 w pb bb mb v D is k cv fv ae ce ptrs f rd rd' cb L body) (n : Nat) : PB w0 w1 (w.drewN n) pb bb mb v D is k cv fv ae ce ptrs f rd rd' cb L body :=
  ⟨h.a, h.pc, h.ci, h.bf, h.mp, h.fr.drewN n, h.ge, h.hb, h.hD⟩
theorem PF.drewN {w1 : World} {rd' : Bool} {fb cb L : Nat} {body : List UInt8} (h : PF w0 w1 w pb bb mb v D is k cv fv ae ce ptrs f rd rd' fb cb L body) (n : Nat) : PF w0 w1 (w.drewN n) pb bb mb v D is k cv fv ae ce ptrs f rd rd' fb cb L body :=
  ⟨h.a, h.pc, h.fd, h.bf, h.fr.drewN n, h.ge, h.hb, h.hD⟩
theorem nextA (I : ItemsOk is D) (h : PA w0 w pb bb mb v D is k cv fv ae ce ptrs f rd) (hk : k < is.length) : Calls Try.prog 68 #[ptrV pb] w (PNext w0 pb bb mb v D is (offs is k)) := by
  obtain ⟨i, hi⟩ : ∃ i, is[k]? = some i := ⟨_, List.getElem?_eq_getElem hk⟩
  cases i with
  | cie c =>
    refine (stepA_cie h I.hD I.hl c hi).mono ?_
    rintro e w' ⟨rfl, cb, rd', body, z, hb, hB⟩
    refine ⟨_, rfl, .inr (.inl ⟨w, k, cv, fv, ae, ce, ptrs, f, rd, rd', cb, c, body, z, rfl, hi, hb, hB⟩), ?_, ?_, blk_cell hB.pc 10, .inr (.inl rfl)⟩
    · rw [curOff_buf hB.bf]; omega
    · rw [curOff_buf hB.bf]; exact hB.bf.2.2.2.1
  | fde n c x =>
    obtain ⟨-, j, hj, hjc, hn⟩ := I.hf k n c x hi
    refine (stepA_fde h I.hD I.hl n c x hi j hj hjc hn).mono ?_
    rintro e w' ⟨rfl, fb, cb, rd', body, z, hb, hcg, hca, hF⟩
    refine ⟨_, rfl, .inr (.inr ⟨w, k, cv, fv, ae, ce, ptrs, f, rd, rd', fb, cb, n, c, x, body, z, rfl, hi, hb, hcg, hca, hF⟩), ?_, ?_, blk_cell hF.pc 10, .inr (.inr rfl)⟩
    · rw [curOff_buf hF.bf]; omega
    · rw [curOff_buf hF.bf]; exact hF.bf.2.2.2.1

theorem off_gt {w1 : World} {rd' : Bool} {off' : Nat} {i : Item} {body : List UInt8} (hi : is[k]? = some i) (hD : D = itemsL is) (h : D.drop (offs is k + 8) = body ++ itemsL (is.drop (k + 1))) (hp : 0 < body.length) (hb : BufR w1 bb v D off' rd') (he : off' = offs is k + 8) :
    off' < D.length ∧ offs is k + 8 < offs is (k + 1) ∧ offs is (k + 1) ≤ D.length := by
  have h1 := congrArg List.length h
  have h2 := congrArg List.length (drop_item is k _ hi)
  rw [← hD] at h2
  simp only [List.length_drop, List.length_append] at h1 h2
  have h3 := offs_succ is k _ hi
  have h4 := hb.2.2.2.1
  omega
theorem nextB (I : ItemsOk is D) {w1 : World} {rd' : Bool} {cb : Nat} {c : LCommon} {body : List UInt8} {z : Nat} (hi : is[k]? = some (.cie c)) (hb : body = [UInt8.ofNat c.version.toNat, 0] ++ uleb c.code ++ sleb c.offset ++ uleb c.ret.toNat ++ (callsL c.calls ++ List.replicate z 0))
    (h : PB w0 w1 w pb bb mb v D is k cv fv ae ce ptrs f rd rd' cb body.length body) : Calls Try.prog 84 #[ptrV pb] w (PNext w0 pb bb mb v D is (offs is k + 8)) := by
  refine (stepB h I.hl I.hD c hi (I.hc k c hi) z hb).mono ?_
  rintro e w' ⟨rfl, rd'', hA⟩
  have hk : k < is.length := (List.getElem?_eq_some_iff.1 hi).1
  have := off_gt hi I.hD h.hD (by rw [hb]; simp) h.bf rfl
  refine ⟨_, rfl, .inl ⟨k + 1, _, _, _, _, _, _, _, rfl, hk, hA⟩, ?_, ?_, blk_cell hA.pc 10, .inl rfl⟩
  · rw [curOff_buf hA.bf]; exact this.2.1
  · rw [curOff_buf hA.bf]; exact this.2.2
theorem nextF (I : ItemsOk is D) {w1 : World} {rd' : Bool} {fb cb n : Nat} {c : LCommon} {x : LFrame} {body : List UInt8} {z : Nat} (hi : is[k]? = some (.fde n c x)) (hb : body = leL x.start 8 ++ leL x.size 8 ++ (callsL x.calls ++ List.replicate z 0)) (hcg : w0.heap.size ≤ cb) (hca : CieAt w1 v cb c)
    (h : PF w0 w1 w pb bb mb v D is k cv fv ae ce ptrs f rd rd' fb cb body.length body) : Calls Try.prog 85 #[ptrV pb] w (PNext w0 pb bb mb v D is (offs is k + 8)) := by
  have hk : k < is.length := (List.getElem?_eq_some_iff.1 hi).1
  have hcap : ptrs.length ≤ 1000 := by
    rw [h.a.fl]
    have e : fdes is = fdes (is.take k) ++ fdes (is.drop k) := by rw [fdes, fdes, fdes, ← List.filterMap_append, List.take_append_drop]
    have := congrArg List.length e; rw [List.length_append] at this; have := I.hn; omega
  refine (stepC h I.hl I.hD n c x hi (I.hf k n c x hi).1 z hcg hca hcap hb).mono ?_
  rintro e w' ⟨rfl, ae', ce', rd'', hA⟩
  have := off_gt hi I.hD h.hD (by rw [hb]; simp [leL_length]; omega) h.bf rfl
  refine ⟨_, rfl, .inl ⟨k + 1, _, _, _, _, _, _, _, rfl, hk, hA⟩, ?_, ?_, blk_cell hA.pc 10, .inl rfl⟩
  · rw [curOff_buf hA.bf]; exact this.2.1
  · rw [curOff_buf hA.bf]; exact this.2.2
end
abbrev ordLE : Value := .iface 95 (.agg #[])

set_option maxRecDepth 100000 in
set_option maxHeartbeats 20000000 in
theorem Parse_any (a : Option Addr) (c : Nat) (D : List UInt8) (is : List Item) (w : World) (I : ItemsOk is D) (hs : Sl w (.slice a D.length c) (vbs D)) (hv : ∀ g, (Value.slice a D.length c).ownBlock = some g → g < w.heap.size) :
    Calls Try.prog 45 #[.slice a D.length c, ordLE, .int .u64 0, .int .i64 8, .int .u64 0] w fun e w' => ∃ ae ce, ∃ ptrs : List Nat,
      e = .returned (.tuple #[.slice ae ptrs.length ce, .nilIface]) ∧ w'.ownsRow w.heap.size 96 1 (.slice ae ptrs.length ce) ptrs.length (ptrs.map ptrV) ∧ ptrs.length = (fdes is).length ∧
      (∀ (i fb : Nat) (c' : LCommon) (x : LFrame), ptrs[i]? = some fb → (fdes is)[i]? = some (c', x) → FdeAt w' (.slice a D.length c) fb ordLE c' x) ∧ Fr [] w w' := by
  have HI := Lib.hid I
  have hl := I.hl
  have Hs := Lib.hid hs
  have Hv := Lib.hid hv
  clear I hs hv
  have hmm := @run_makeMap Try.prog
  go_enter Try.func45, Try.ntmps45
  go_wp2_with (go_at_call 34; refine (NewBuffer_any a D.length c _).mono ?_; rintro e w' ⟨rfl, rfl⟩)
  have hb1 : BufR (w.alloc (.cells #[.slice a D.length c, .int .i64 0, .bool false] 79 (0, 0))) w.heap.size (.slice a D.length c) D 0 false := BufR_new Hs.out Hv.out (by omega)
  have hF1 : Fr [] w (w.alloc (.cells #[.slice a D.length c, .int .i64 0, .bool false] 79 (0, 0))) := (Fr.refl _ _).alloc _
  generalize w.alloc (.cells #[.slice a D.length c, .int .i64 0, .bool false] 79 (0, 0)) = w1 at *
  have HB1 := Lib.hid hb1
  have HF1 := Lib.hid hF1
  obtain ⟨bb, hbb⟩ : ∃ bb, w.heap.size = bb := ⟨_, rfl⟩
  rw [hbb] at HB1
  clear hb1 hF1
  go_wp2_with (go_at_call 67; refine (newFrameIndex_any _).mono ?_)
  rintro e w2 ⟨rfl, ho2, hf2⟩
  have HO2 := Lib.hid ho2
  have HF2 := Lib.hid hf2
  clear ho2 hf2
  obtain ⟨rb, hrb⟩ : ∃ rb, w1.heap.size = rb := ⟨_, rfl⟩
  rw [hrb] at HO2 ⊢
  have Hbb := Lib.hid hbb
  have Hrb := Lib.hid hrb
  simp only [hbb]
  clear hbb hrb
  go_wp2_with fail
  have hF3 : Fr [] w2 ((w2.alloc (.map #[] 0)).alloc (.cells #[.int .u64 0, .pointer (some ⟨bb, 0, none⟩), .int .i64 (D.length : Int), .slice (some ⟨rb, 0, none⟩) 0 1000, .map (some w2.heap.size), .pointer none, .pointer none, .int .u32 0, .int .i64 8, .int .u64 0, .nilIface] 150 (0, 0))) := ((Fr.refl _ _).alloc _).alloc _
  have hA : PA w ((w2.alloc (.map #[] 0)).alloc (.cells #[.int .u64 0, .pointer (some ⟨bb, 0, none⟩), .int .i64 (D.length : Int), .slice (some ⟨rb, 0, none⟩) 0 1000, .map (some w2.heap.size), .pointer none, .pointer none, .int .u32 0, .int .i64 8, .int .u64 0, .nilIface] 150 (0, 0))) (w2.heap.size + 1) bb w2.heap.size (.slice a D.length c) D is 0 (.pointer none) (.pointer none) (some ⟨rb, 0, none⟩) 1000 [] (fun _ => none) false := by
    have e1 := HF1.out.size
    have e2 := HF2.out.size
    have e3 := Hbb.out
    have e4 := Hrb.out
    have hn := blk_new (w2.alloc (.map #[] 0)) (.cells #[.int .u64 0, .pointer (some ⟨bb, 0, none⟩), .int .i64 (D.length : Int), .slice (some ⟨rb, 0, none⟩) 0 1000, .map (some w2.heap.size), .pointer none, .pointer none, .int .u32 0, .int .i64 8, .int .u64 0, .nilIface] 150 (0, 0))
    rw [World.size_alloc] at hn
    refine ⟨hn, ?_, MapIs.empty _ (blk_alloc (blk_new w2 _)), ?_, (HF1.out.then HF2.out).then hF3, Hv.out, by omega, by omega, by omega, fun j c h => by omega, by simp [fdes], fun i fb c x h => by simp at h, List.nodup_nil⟩
    · have := (HB1.out.fr HF2.out (by simp) (by simp)).fr hF3 (by simp) (by simp)
      simpa [offs, itemsL] using this
    · exact own_base (own_fr HO2.out hF3 (by simp)) (by omega)
  have HP : Hid (PInv w ((w2.alloc (.map #[] 0)).alloc (.cells #[.int .u64 0, .pointer (some ⟨bb, 0, none⟩), .int .i64 (D.length : Int), .slice (some ⟨rb, 0, none⟩) 0 1000, .map (some w2.heap.size), .pointer none, .pointer none, .int .u32 0, .int .i64 8, .int .u64 0, .nilIface] 150 (0, 0))) (w2.heap.size + 1) bb w2.heap.size (.slice a D.length c) D is fnL) :=
    .inl ⟨0, _, _, _, _, _, _, _, rfl, Nat.zero_le _, hA⟩
  clear hF3 hA HO2
  generalize (w2.alloc (.map #[] 0)).alloc (.cells #[.int .u64 0, .pointer (some ⟨bb, 0, none⟩), .int .i64 (D.length : Int), .slice (some ⟨rb, 0, none⟩) 0 1000, .map (some w2.heap.size), .pointer none, .pointer none, .int .u32 0, .int .i64 8, .int .u64 0, .nilIface] 150 (0, 0)) = w3 at *
  obtain ⟨mb, hmb⟩ : ∃ mb, w2.heap.size = mb := ⟨_, rfl⟩
  obtain ⟨pb, hpb⟩ : ∃ pb, w2.heap.size + 1 = pb := ⟨_, rfl⟩
  rw [hpb, hmb] at HP
  simp only [hpb]
  simp only [hmb]
  clear hpb hmb hmm
  go_loopw [14] (fun fn wr => PInv w wr pb bb mb (.slice a D.length c) D is fn) (fun _ wr => D.length - curOff wr bb)
  case atStart => exact HP.out
  case round =>
    clear HP
    have Hrel := Lib.hid hrel
    clear hrel
    rcases Hrel.out with ⟨k, cv, fv, ae, ce, ptrs, f, rd, rfl, hk, hA⟩ | ⟨w1', k, cv, fv, ae, ce, ptrs, f, rd, rd', cb, c', body, z, rfl, hi, hb, hB⟩ | ⟨w1', k, cv, fv, ae, ce, ptrs, f, rd, rd', fb, cb, n, c', x, body, z, rfl, hi, hb, hcg, hca, hF⟩
    · by_cases hlt : k < is.length
      · as_aux_lemma =>
        have hm := offs_lt is hlt (Nat.le_refl _)
        rw [offs_all, ← HI.out.hD] at hm
        have hne : (((D.length - offs is k : Nat) : Int) != 0) = true := by rw [bne_iff_ne]; omega
        have HA := Lib.hid hA
        clear hA
        obtain ⟨x, hx⟩ : ∃ x, D.length - offs is k = x := ⟨_, rfl⟩
        rw [hx] at hne
        have Hx : Hid (offs is k + x = D.length) := by show _ = _; omega
        have HO := Lib.hid (curOff_buf HA.out.bf)
        clear hx
        go_wp2_with (first | (go_at_call 69; go_must (refine (BufLen_any bb _ D (offs is k) x rd _ HA.out.bf Hx.out).mono ?_); rintro e w' ⟨rfl, kq, rfl⟩) | (go_at_call 68; go_must (refine (nextA HI.out (HA.out.drewN _) hlt).mono ?_); rintro e w4 ⟨fn, rfl, hn1, hn2, hn3, hn4, hn5⟩; have HN1 := Lib.hid hn1; have HN2 := Lib.hid hn2; have HN3 := Lib.hid hn3; clear hn1 hn2 hn3 hn5))
        exact ⟨HN1.out, by have := HN2.out; have := HO.out; have := HN3.out; omega⟩
      · obtain rfl : k = is.length := by omega
        have HA := Lib.hid hA
        have hz : offs is is.length + 0 = D.length := by rw [offs_all, HI.out.hD]; rfl
        have Hz := Lib.hid hz
        have c3 : ∀ n, (wr.drewN n).cell? ⟨pb, 3, none⟩ = some (.slice ae ptrs.length ce) := fun n => blk_cell HA.out.pc 3
        clear hlt hk hA hz
        go_wp2_with (go_at_call 69; go_must (refine (BufLen_any bb _ D (offs is is.length) 0 rd _ HA.out.bf Hz.out).mono ?_); rintro e w' ⟨rfl, kq, rfl⟩)
        have hfa : fdes (is.take is.length) = fdes is := by rw [List.take_length]
        have hfl := HA.out.fl
        rw [hfa] at hfl
        have HFL := Lib.hid hfl
        have hcap := HI.out.hn
        rw [← hfl] at hcap
        clear hfl c3
        obtain ⟨wo, rfl⟩ : ∃ wo : World, wo = wr := ⟨_, rfl⟩
        go_loopw [48] (fun s wx => ∃ i : Nat, i ≤ ptrs.length ∧ s = .int .i64 (i : Int) ∧ PC wx pb bb D.length (.slice ae ptrs.length ce) mb cv fv 0 ∧ wx.ownsRow w.heap.size 96 1 (.slice ae ptrs.length ce) ptrs.length (ptrs.map ptrV) ∧ Fr [] w wx ∧
          (∀ (j fb : Nat) (c' : LCommon) (x : LFrame), ptrs[j]? = some fb → (fdes is)[j]? = some (c', x) → FdeAt wx (.slice a D.length c) fb (if j < i then ordLE else .nilIface) c' x)) (fun s _ => ptrs.length - (intOf s).toNat)
        case atStart =>
          refine ⟨0, Nat.zero_le _, rfl, HA.out.pc, HA.out.own, HA.out.fr.drewN _, fun j fb c' x h1 h2 => ?_⟩
          rw [← hfa] at h2
          rw [if_neg (by omega)]
          exact ((HA.out.fd j fb c' x h1 h2).2).fr (Fr.drewN (Fr.refl [] _) _) (by simp) (by simp)
        case round =>
          obtain ⟨i, hi, rfl, hpc, hown, hfr, hfd⟩ := hrel
          have HPC := Lib.hid hpc
          have HOW := Lib.hid hown
          have HFR := Lib.hid hfr
          have HFD := Lib.hid hfd
          clear hpc hown hfr hfd
          have c3 : wr.cell? ⟨pb, 3, none⟩ = some (.slice ae ptrs.length ce) := blk_cell HPC.out 3
          by_cases hit : i < ptrs.length
          case neg =>
            obtain rfl : i = ptrs.length := by omega
            clear hit
            go_wp2
            go_ret2
            refine ⟨ae, ce, ptrs, rfl, HOW.out, HFL.out, fun j fb c' x h1 h2 => ?_, HFR.out⟩
            have := HFD.out j fb c' x h1 h2
            rwa [if_pos (List.getElem?_eq_some_iff.1 h1).1] at this
          case pos =>
            obtain ⟨g, cap, hv, -, hcap1, hcap2⟩ := own_some HOW.out (by omega)
            simp only [Value.slice.injEq] at hv
            obtain ⟨rfl, -, rfl⟩ := hv
            unfold maxLen at hcap2
            obtain ⟨fb, hfb⟩ : ∃ fb, ptrs[i]? = some fb := ⟨_, List.getElem?_eq_getElem hit⟩
            obtain ⟨⟨c', x⟩, hx⟩ : ∃ y, (fdes is)[i]? = some y := ⟨_, List.getElem?_eq_getElem (by rw [← HFL.out]; exact hit)⟩
            have hrow : wr.cell? ⟨g, i, none⟩ = some (ptrV fb) := by
              have := HOW.out.cells (g := g) rfl i (ptrV fb) (by simp [hfb])
              rwa [Addr.add_lit, Nat.zero_add] at this
            have hat := HFD.out i fb c' x hfb hx
            rw [if_neg (Nat.lt_irrefl _)] at hat
            have Hat := Lib.hid hat
            obtain ⟨L0, cb0, a0, n0, k0, z0, hb0, hs0, ho0, hc0⟩ := hat
            have s5 : wr.cell? ⟨fb, 5, none⟩ = some .nilIface := by rw [blk_cell hb0]; rfl
            have z5 : wr.frozen? ⟨fb, 5, none⟩ = false := blk_free hb0 5
            have Hfb := Lib.hid hfb
            have Hx := Lib.hid hx
            have HB0 := Lib.hid hb0
            have HS0 := Lib.hid hs0
            have HO0 := Lib.hid ho0
            have HC0 := Lib.hid hc0
            clear hfb hx hb0 hs0 ho0 hc0
            go_wp2_with fail
            go_roundw
            case rel =>
              have hf : Fr [fb] wr (wr.setCell ⟨fb, 5, none⟩ ordLE) := (Fr.refl _ _).setCell (.inl (by simp)) _
              have hgf : fb ≠ pb := blk_ne HB0.out HPC.out (by decide)
              have hvf : ∀ g, (Value.slice a D.length c).ownBlock = some g → g ∉ [fb] := fun g' hg' => by
                have h1 := HA.out.vl g' hg'
                have h2 := (HA.out.fd i fb c' x Hfb.out (by rw [hfa]; exact Hx.out)).1
                simp; omega
              refine ⟨i + 1, by omega, by go_num, HPC.out.fr hf (by simpa using hgf.symm), own_fr HOW.out hf (fun g' hg' => ?_), ?_, fun j fj cj xj h1 h2 => ?_⟩
              · obtain ⟨cur, hcur⟩ := own_blk HOW.out hg'
                simpa using blk_ne hcur HB0.out (by decide)
              · exact HFR.out.trans hf (fun b hb hlt => by
                  have h2 := (HA.out.fd i fb c' x Hfb.out (by rw [hfa]; exact Hx.out)).1
                  simp at hb; omega)
              · obtain ⟨cs0, hcs0⟩ := HC0.out.blk
                have hcf : cb0 ∉ [fb] := by simpa using blk_ne hcs0 HB0.out (by decide)
                by_cases hji : j = i
                · subst hji
                  rw [Hfb.out] at h1
                  rw [Hx.out] at h2
                  simp only [Option.some.injEq, Prod.mk.injEq] at h1 h2
                  obtain ⟨rfl, rfl⟩ := h2
                  subst h1
                  rw [if_pos (by omega)]
                  exact ⟨L0, cb0, a0, n0, k0, z0, blk_set HB0.out 5 ordLE, HS0.out.fr hf (fun g' hg' => hvf g' (HO0.out g' hg')), HO0.out, HC0.out.fr hf hcf hvf⟩
                · have hj := HFD.out j fj cj xj h1 h2
                  have hne : fj ≠ fb := by
                    rintro rfl
                    have hnd := HA.out.nd
                    rw [List.nodup_iff_pairwise_ne, List.pairwise_iff_getElem] at hnd
                    obtain ⟨hjl, he1⟩ := List.getElem?_eq_some_iff.1 h1
                    obtain ⟨hil, he2⟩ := List.getElem?_eq_some_iff.1 Hfb.out
                    rcases Nat.lt_or_gt_of_ne hji with h | h
                    · exact hnd j i hjl hil h (by rw [he1, he2])
                    · exact hnd i j hil hjl h (by rw [he1, he2])
                  have e : (if j < i + 1 then ordLE else Value.nilIface) = (if j < i then ordLE else .nilIface) := by
                    by_cases hlt : j < i
                    · rw [if_pos hlt, if_pos (by omega)]
                    · rw [if_neg hlt, if_neg (by omega)]
                  rw [e]
                  refine hj.fr hf (fun b cs t hb ht => ?_) hvf
                  rcases ht with rfl | rfl
                  · simpa using blk_ne hb HB0.out (by decide)
                  · simpa using hne
            case measure => simp [intOf]; omega
    · as_aux_lemma =>
      have hm := (off_gt hi HI.out.hD hB.hD (by rw [hb]; simp) hB.bf rfl).1
      obtain ⟨x, hx⟩ : ∃ x, D.length - (offs is k + 8) = x := ⟨_, rfl⟩
      have hne : ((x : Int) != 0) = true := by rw [bne_iff_ne]; omega
      have HX := Lib.hid hB
      have Hx : Hid (offs is k + 8 + x = D.length) := by show _ = _; omega
      have HO := Lib.hid (curOff_buf hB.bf)
      have HN : Hid (∀ n, Calls Try.prog 84 #[ptrV pb] (wr.drewN n) (PNext w pb bb mb (.slice a D.length c) D is (offs is k + 8))) := fun n => nextB HI.out hi hb (HX.out.drewN n)
      clear hx hB hb hi
      go_wp2_with (first | (go_at_call 69; go_must (refine (BufLen_any bb _ D (offs is k + 8) x rd' _ HX.out.bf Hx.out).mono ?_); rintro e w' ⟨rfl, kq, rfl⟩) | (go_at_call 84; go_must (refine (HN.out _).mono ?_); rintro e w4 ⟨fn, rfl, hn1, hn2, hn3, hn4, hn5⟩; have HN1 := Lib.hid hn1; have HN2 := Lib.hid hn2; have HN3 := Lib.hid hn3; clear hn1 hn2 hn3 hn5))
      exact ⟨HN1.out, by have := HN2.out; have := HO.out; have := HN3.out; omega⟩
    · as_aux_lemma =>
      have hm := (off_gt hi HI.out.hD hF.hD (by rw [hb]; simp [leL_length]; omega) hF.bf rfl).1
      obtain ⟨x, hx⟩ : ∃ x, D.length - (offs is k + 8) = x := ⟨_, rfl⟩
      have hne : ((x : Int) != 0) = true := by rw [bne_iff_ne]; omega
      have HX := Lib.hid hF
      have Hx : Hid (offs is k + 8 + x = D.length) := by show _ = _; omega
      have HO := Lib.hid (curOff_buf hF.bf)
      have HN : Hid (∀ n, Calls Try.prog 85 #[ptrV pb] (wr.drewN n) (PNext w pb bb mb (.slice a D.length c) D is (offs is k + 8))) := fun n => nextF HI.out hi hb hcg hca (HX.out.drewN n)
      clear hx hF hb hi
      go_wp2_with (first | (go_at_call 69; go_must (refine (BufLen_any bb _ D (offs is k + 8) x rd' _ HX.out.bf Hx.out).mono ?_); rintro e w' ⟨rfl, kq, rfl⟩) | (go_at_call 85; go_must (refine (HN.out _).mono ?_); rintro e w4 ⟨fn, rfl, hn1, hn2, hn3, hn4, hn5⟩; have HN1 := Lib.hid hn1; have HN2 := Lib.hid hn2; have HN3 := Lib.hid hn3; clear hn1 hn2 hn3 hn5))
      exact ⟨HN1.out, by have := HN2.out; have := HO.out; have := HN3.out; omega⟩
end Go.Proofs.Ytahohmdfllgedaa
