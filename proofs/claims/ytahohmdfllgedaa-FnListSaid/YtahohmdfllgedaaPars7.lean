/- The parser's rounds: from one entry to the next. -/
import Derived.Test.YtahohmdfllgedaaItems
namespace Go.Proofs.Ytahohmdfllgedaa
open Go.RowKit

abbrev ptrV (b : Nat) : Value := .pointer (some ⟨b, 0, none⟩)
def CieAt (w : World) (v : Value) (cb : Nat) (c : LCommon) : Prop :=
  ∃ L N a n k z, w.heap[cb]? = some (.cells #[.int .u32 L, .int .u32 N, vb (UInt8.ofNat c.version.toNat), .string ⟨#[]⟩, .int .u64 (c.code : Int), .int .i64 c.offset, .int .u64 ((c.ret.toNat : Nat) : Int), .slice a n k, .int .u64 0, .int .u8 0] 181 (0, 0)) ∧
    Sl w (.slice a n k) (vbs (callsL c.calls ++ List.replicate z 0)) ∧ ∀ g, (Value.slice a n k).ownBlock = some g → v.ownBlock = some g
def FdeAt (w : World) (v : Value) (fb : Nat) (ord : Value) (c : LCommon) (f : LFrame) : Prop :=
  ∃ L cb a n k z, w.heap[fb]? = some (.cells #[.int .u32 L, ptrV cb, .slice a n k, .int .u64 (f.start : Int), .int .u64 (f.size : Int), ord] 154 (0, 0)) ∧
    Sl w (.slice a n k) (vbs (callsL f.calls ++ List.replicate z 0)) ∧ (∀ g, (Value.slice a n k).ownBlock = some g → v.ownBlock = some g) ∧ CieAt w v cb c

theorem CieAt.fr {w w' : World} {v : Value} {cb : Nat} {c : LCommon} {bs : List Nat} (h : CieAt w v cb c) (f : Fr bs w w') (hn : cb ∉ bs) (hv : ∀ g, v.ownBlock = some g → g ∉ bs) : CieAt w' v cb c := by
  obtain ⟨L, N, a, n, k, z, h1, h2, h3⟩ := h
  exact ⟨L, N, a, n, k, z, f.get h1 hn, h2.fr f (fun g hg => hv g (h3 g hg)), h3⟩
theorem CieAt.blk {w : World} {v : Value} {cb : Nat} {c : LCommon} (h : CieAt w v cb c) : ∃ cs, w.heap[cb]? = some (.cells cs 181 (0, 0)) := by
  obtain ⟨L, N, a, n, k, z, h1, _⟩ := h; exact ⟨_, h1⟩
theorem FdeAt.blk {w : World} {v : Value} {fb : Nat} {o : Value} {c : LCommon} {f : LFrame} (h : FdeAt w v fb o c f) : ∃ cs, w.heap[fb]? = some (.cells cs 154 (0, 0)) := by
  obtain ⟨L, cb, a, n, k, z, h1, _⟩ := h; exact ⟨_, h1⟩
theorem FdeAt.fr {w w' : World} {v : Value} {fb : Nat} {o : Value} {c : LCommon} {f : LFrame} {bs : List Nat} (h : FdeAt w v fb o c f) (fr : Fr bs w w') (hn : ∀ k cs t, w.heap[k]? = some (.cells cs t (0, 0)) → (t = 181 ∨ k = fb) → k ∉ bs) (hv : ∀ g, v.ownBlock = some g → g ∉ bs) : FdeAt w' v fb o c f := by
  obtain ⟨L, cb, a, n, k, z, h1, h2, h3, h4⟩ := h
  obtain ⟨cs, hcs⟩ := h4.blk
  exact ⟨L, cb, a, n, k, z, fr.get h1 (hn _ _ _ h1 (.inr rfl)), h2.fr fr (fun g hg => hv g (h3 g hg)), h3, h4.fr fr (hn _ _ _ hcs (.inl rfl)) hv⟩

theorem blk_ne {w : World} {a b : Nat} {c1 c2 : Array Value} {t1 t2 : TypeId} {z1 z2 : Nat × Nat} (h1 : w.heap[a]? = some (.cells c1 t1 z1)) (h2 : w.heap[b]? = some (.cells c2 t2 z2)) (ht : t1 ≠ t2) : a ≠ b := by
  rintro rfl; rw [h1] at h2; simp at h2; exact ht h2.2.1
theorem map_ne {w : World} {a b : Nat} {c1 : Array Value} {t1 : TypeId} {z1 : Nat × Nat} {K : IntKind} {f : Int → Option Value} (h1 : w.heap[a]? = some (.cells c1 t1 z1)) (h2 : MapIs w b K f) : a ≠ b := by
  obtain ⟨es, c, h2, _⟩ := h2
  rintro rfl; rw [h1] at h2; simp at h2
theorem own_blk {w : World} {base e : Nat} {v : Value} {n : Nat} {vs : List Value} (h : w.ownsRow base e 1 v n vs) {g : Nat} (hg : v.ownBlock = some g) : ∃ cur, w.heap[g]? = some (.cells cur e (0, 0)) := by
  rcases h.2 with ⟨rfl, -⟩ | ⟨g', cap, cur, rfl, -, hh, -⟩
  · cases hg
  · simp [Value.ownBlock] at hg; subst hg; exact ⟨cur, hh⟩

/-- k entries have been read. -/
structure PA (w0 w : World) (pb bb mb : Nat) (v : Value) (D : List UInt8) (is : List Item) (k : Nat) (cv fv : Value) (ae : Option Addr) (ce : Nat) (ptrs : List Nat) (f : Int → Option Value) (rd : Bool) : Prop where
  pc : PC w pb bb D.length (.slice ae ptrs.length ce) mb cv fv 0
  bf : BufR w bb v D (offs is k) rd
  mp : MapIs w mb .i64 f
  own : w.ownsRow w0.heap.size 96 1 (.slice ae ptrs.length ce) ptrs.length (ptrs.map ptrV)
  fr : Fr [] w0 w
  vl : ∀ g, v.ownBlock = some g → g < w0.heap.size
  gp : w0.heap.size ≤ pb
  gb : w0.heap.size ≤ bb
  gm : w0.heap.size ≤ mb
  cies : ∀ (j : Nat) (c : LCommon), j < k → is[j]? = some (.cie c) → ∃ cb, f (offs is j : Int) = some (ptrV cb) ∧ w0.heap.size ≤ cb ∧ CieAt w v cb c
  fl : ptrs.length = (fdes (is.take k)).length
  fd : ∀ (i fb : Nat) (c : LCommon) (x : LFrame), ptrs[i]? = some fb → (fdes (is.take k))[i]? = some (c, x) → w0.heap.size ≤ fb ∧ FdeAt w v fb .nilIface c x
  nd : ptrs.Nodup

section
variable {w0 w w' : World} {pb bb mb : Nat} {v : Value} {D : List UInt8} {is : List Item} {k : Nat} {cv fv : Value} {ae : Option Addr} {ce : Nat} {ptrs : List Nat} {f : Int → Option Value} {rd : Bool}
theorem PA.d1 (h : PA w0 w pb bb mb v D is k cv fv ae ce ptrs f rd) : pb ≠ bb := blk_ne h.pc h.bf.1 (by decide)
theorem PA.d2 (h : PA w0 w pb bb mb v D is k cv fv ae ce ptrs f rd) : pb ≠ mb := map_ne h.pc h.mp
theorem PA.d3 (h : PA w0 w pb bb mb v D is k cv fv ae ce ptrs f rd) : bb ≠ mb := map_ne h.bf.1 h.mp
theorem PA.vn (h : PA w0 w pb bb mb v D is k cv fv ae ce ptrs f rd) : ∀ g, v.ownBlock = some g → g < w.heap.size ∧ g ≠ pb ∧ g ≠ mb := fun g hg => by
  have := h.vl g hg; have := h.fr.size; have := h.gp; have := h.gm; omega

/-- A common entry's head has been read. -/
structure PB (w0 w1 w : World) (pb bb mb : Nat) (v : Value) (D : List UInt8) (is : List Item) (k : Nat) (cv fv : Value) (ae : Option Addr) (ce : Nat) (ptrs : List Nat) (f : Int → Option Value) (rd rd' : Bool) (cb L : Nat) (body : List UInt8) : Prop where
  a : PA w0 w1 pb bb mb v D is k cv fv ae ce ptrs f rd
  pc : PC w pb bb D.length (.slice ae ptrs.length ce) mb (ptrV cb) fv L
  ci : w.heap[cb]? = some (.cells (cieNew L) 181 (0, 0))
  bf : BufR w bb v D (offs is k + 8) rd'
  mp : MapIs w mb .i64 (upd f (offs is k : Int) (ptrV cb))
  fr : Fr [pb, bb, mb] w1 w
  ge : w1.heap.size ≤ cb
  hb : L = body.length
  hD : D.drop (offs is k + 8) = body ++ itemsL (is.drop (k + 1))

theorem drop_head {D x y body rest : List UInt8} {o : Nat} (h : D.drop o = leL (body.length + 4) 4 ++ y ++ body ++ rest) (hy : y.length = 4) : D.drop (o + 8) = body ++ rest := by
  rw [← List.drop_drop, h, List.append_assoc, List.drop_append_of_le_length (by simp [leL_length, hy]), List.drop_of_length_le (by simp [leL_length, hy]), List.nil_append]

theorem stepA_cie (h : PA w0 w pb bb mb v D is k cv fv ae ce ptrs f rd) (hD : D = itemsL is) (hD2 : D.length < 1073741824) (c : LCommon) (hi : is[k]? = some (.cie c)) :
    Calls Try.prog 68 #[ptrV pb] w fun e w' => e = .returned (.func (.func 84) #[] #[]) ∧
      ∃ cb rd' body z, body = [UInt8.ofNat c.version.toNat, 0] ++ uleb c.code ++ sleb c.offset ++ uleb c.ret.toNat ++ (callsL c.calls ++ List.replicate z 0) ∧
        PB w0 w w' pb bb mb v D is k cv fv ae ce ptrs f rd rd' cb body.length body := by
  obtain ⟨body, z, hb1, hb2⟩ := cie_bytes c
  have hdrop := drop_item is k _ hi
  rw [← hD, itemL, hb1] at hdrop
  have hlen := congrArg List.length hdrop
  simp only [List.length_drop, List.length_append, leL_length] at hlen
  refine (parselength_cie pb bb D.length _ mb cv fv 0 v D (offs is k) rd f w h.pc h.bf rfl h.mp h.vn h.d1 h.d2 h.d3 body.length (body ++ itemsL (is.drop (k + 1))) (by rw [hdrop]; simp only [List.append_assoc]) (by omega)).mono ?_
  rintro e w' ⟨rfl, cb, hge, hpc, hci, ⟨rd', hbf⟩, hmp, hfr⟩
  exact ⟨rfl, cb, rd', body, z, hb2, h, hpc, hci, hbf, hmp, hfr, hge, rfl, drop_head (x := []) hdrop (leL_length 4 _)⟩

/-- A frame's head has been read. -/
structure PF (w0 w1 w : World) (pb bb mb : Nat) (v : Value) (D : List UInt8) (is : List Item) (k : Nat) (cv fv : Value) (ae : Option Addr) (ce : Nat) (ptrs : List Nat) (f : Int → Option Value) (rd rd' : Bool) (fb cb L : Nat) (body : List UInt8) : Prop where
  a : PA w0 w1 pb bb mb v D is k cv fv ae ce ptrs f rd
  pc : PC w pb bb D.length (.slice ae ptrs.length ce) mb cv (ptrV fb) L
  fd : w.heap[fb]? = some (.cells (fdeNew L cb) 154 (0, 0))
  bf : BufR w bb v D (offs is k + 8) rd'
  fr : Fr [pb, bb] w1 w
  ge : w1.heap.size ≤ fb
  hb : L = body.length
  hD : D.drop (offs is k + 8) = body ++ itemsL (is.drop (k + 1))

theorem stepA_fde (h : PA w0 w pb bb mb v D is k cv fv ae ce ptrs f rd) (hD : D = itemsL is) (hD2 : D.length < 1073741824) (n : Nat) (c : LCommon) (x : LFrame) (hi : is[k]? = some (.fde n c x)) (j : Nat) (hj : j < k) (hjc : is[j]? = some (.cie c)) (hn : n = offs is j) :
    Calls Try.prog 68 #[ptrV pb] w fun e w' => e = .returned (.func (.func 85) #[] #[]) ∧
      ∃ fb cb rd' body z, body = leL x.start 8 ++ leL x.size 8 ++ (callsL x.calls ++ List.replicate z 0) ∧ w0.heap.size ≤ cb ∧ CieAt w v cb c ∧
        PF w0 w w' pb bb mb v D is k cv fv ae ce ptrs f rd rd' fb cb body.length body := by
  obtain ⟨body, z, hb1, hb2⟩ := fde_bytes n x
  have hdrop := drop_item is k _ hi
  rw [← hD, itemL, hb1] at hdrop
  have hlen := congrArg List.length hdrop
  simp only [List.length_drop, List.length_append, leL_length] at hlen
  obtain ⟨cb, hcb, hcg, hca⟩ := h.cies j c hj hjc
  have hnl : n < 1073741824 := by
    have hk : k < is.length := (List.getElem?_eq_some_iff.1 hi).1
    have := offs_mono is (show j ≤ is.length by omega)
    rw [offs_all, ← hD] at this; omega
  refine (parselength_fde pb bb D.length _ mb cv fv 0 v D (offs is k) rd f w h.pc h.bf rfl h.mp h.vn h.d1 h.d2 h.d3 body.length n cb (body ++ itemsL (is.drop (k + 1))) (by rw [hdrop]; simp only [List.append_assoc]) (by omega) hnl (by rw [hn]; exact hcb)).mono ?_
  rintro e w' ⟨rfl, fb, hge, hpc, hfd, ⟨rd', hbf⟩, hfr⟩
  exact ⟨rfl, fb, cb, rd', body, z, hb2, hcg, hca, h, hpc, hfd, hbf, hfr, hge, rfl, drop_head (x := []) hdrop (leL_length 4 _)⟩

theorem stepB {w1 : World} {rd' : Bool} {cb L : Nat} {body : List UInt8} (h : PB w0 w1 w pb bb mb v D is k cv fv ae ce ptrs f rd rd' cb L body) (hD2 : D.length < 1073741824) (hDi : D = itemsL is) (c : LCommon) (hi : is[k]? = some (.cie c)) (hr : rcB c = true) (z : Nat)
    (hbody : body = [UInt8.ofNat c.version.toNat, 0] ++ uleb c.code ++ sleb c.offset ++ uleb c.ret.toNat ++ (callsL c.calls ++ List.replicate z 0)) :
    Calls Try.prog 84 #[ptrV pb] w fun e w' => e = .returned (.func (.func 68) #[] #[]) ∧
      ∃ rd'', PA w0 w' pb bb mb v D is (k + 1) (ptrV cb) fv ae ce ptrs (upd f (offs is k : Int) (ptrV cb)) rd'' := by
  obtain ⟨q1, q2, q3, q4, q5, q6, q7, q8, q9, q10, q11⟩ := rc_facts hr
  have hdrop := drop_item is k _ hi
  have hlen := congrArg List.length hdrop
  rw [← hDi] at hlen
  have hle := congrArg List.length h.hD
  simp only [List.length_drop, List.length_append] at hle hlen
  have hpcb : pb ≠ cb := blk_ne h.pc h.ci (by decide)
  have hbcb : bb ≠ cb := blk_ne h.bf.1 h.ci (by decide)
  have hgec := h.ge
  have hfs := h.a.fr.size
  have hitem := offs_succ is k _ hi
  have hkl : k < is.length := (List.getElem?_eq_some_iff.1 hi).1
  refine (parseCIE_any pb bb D.length _ mb cb fv L v D (offs is k + 8) rd' 4294967295 w h.pc h.ci h.bf (fun g hg => ?_) h.a.d1 hpcb hbcb (UInt8.ofNat c.version.toNat) c.code c.offset c.ret.toNat _ _ (by omega) (by omega) (by omega) (by omega) body hbody h.hD h.hb (by rw [h.hb]; omega)).mono ?_
  · have := h.a.vl g hg; have := h.a.gp; have := h.a.gb; have := h.fr.size; omega
  rintro e w' ⟨rfl, hpc, ⟨a, n, c', hci, hsl, hso⟩, ⟨rd'', hbf⟩, hfr⟩
  have hF : Fr [pb, bb, mb, cb] w1 w' := (h.fr.mono (bs := [pb, bb, mb, cb]) (by simp +contextual)).trans (hfr.mono (bs := [pb, bb, mb, cb]) (by simp +contextual)) (fun i hi _ => hi)
  have hvn : ∀ g, v.ownBlock = some g → g ∉ [pb, bb, mb, cb] := fun g hg => by
    have := h.a.vl g hg; have := h.a.gp; have := h.a.gb; have := h.a.gm; simp; omega
  have hrow : ∀ g, (Value.slice ae ptrs.length ce).ownBlock = some g → g ∉ [pb, bb, mb, cb] := fun g hg => by
    obtain ⟨cur, hcur⟩ := own_blk h.a.own hg
    have e1 := blk_ne hcur h.a.pc (by decide)
    have e2 := blk_ne hcur h.a.bf.1 (by decide)
    have e3 := map_ne hcur h.a.mp
    have := lt_heap hcur
    simp; omega
  have hmb : MapIs w' mb .i64 (upd f (offs is k : Int) (ptrV cb)) := h.mp.fr hfr (by
    have e1 := map_ne h.pc h.mp; have e2 := map_ne h.bf.1 h.mp; have e3 := map_ne h.ci h.mp
    simp; exact ⟨e1.symm, e2.symm, e3.symm⟩)
  have hold : ∀ cb0 cs, w1.heap[cb0]? = some (.cells cs 181 (0, 0)) → cb0 ∉ [pb, bb, mb, cb] := fun cb0 cs hcs => by
    have e1 := blk_ne hcs h.a.pc (by decide)
    have e2 := blk_ne hcs h.a.bf.1 (by decide)
    have e3 := map_ne hcs h.a.mp
    have := lt_heap hcs
    simp; omega
  have hoff : offs is k + 8 + L = offs is (k + 1) := by
    rw [hitem]; have := h.hb; have := h.bf.2.2.2.1; omega
  rw [hoff] at hbf
  refine ⟨rfl, rd'', hpc, hbf, hmb, own_fr h.a.own hF hrow, ?_, h.a.vl, h.a.gp, h.a.gb, h.a.gm, ?_, ?_, ?_, h.a.nd⟩
  · refine h.a.fr.trans hF (fun i hi hlt => ?_)
    have := h.a.gp; have := h.a.gb; have := h.a.gm; simp at hi; omega
  · intro j cj hj hcj
    by_cases hjk : j = k
    · subst hjk
      rw [hi] at hcj
      simp only [Option.some.injEq, Item.cie.injEq] at hcj
      subst hcj
      exact ⟨cb, by simp [upd], by omega, _, _, a, n, c', z, hci, hsl, hso⟩
    · obtain ⟨cb0, h1, h2, h3⟩ := h.a.cies j cj (by omega) hcj
      have hlt := offs_lt is (show j < k by omega) (by omega)
      obtain ⟨cs, hcs⟩ := h3.blk
      exact ⟨cb0, by rw [upd, if_neg (by omega)]; exact h1, h2, h3.fr hF (hold _ _ hcs) hvn⟩
  · rw [fdes_take_cie is k c hi]; exact h.a.fl
  · intro i fb c0 x hfb hx
    rw [fdes_take_cie is k c hi] at hx
    obtain ⟨h1, h2⟩ := h.a.fd i fb c0 x hfb hx
    refine ⟨h1, h2.fr hF (fun b cs t hb ht => ?_) hvn⟩
    obtain ⟨csf, hcsf⟩ := h2.blk
    rcases ht with rfl | rfl
    · exact hold _ _ hb
    · have e1 := blk_ne hcsf h.a.pc (by decide)
      have e2 := blk_ne hcsf h.a.bf.1 (by decide)
      have e3 := map_ne hcsf h.a.mp
      have := lt_heap hcsf
      simp; omega

theorem stepC {w1 : World} {rd' : Bool} {fb cb L : Nat} {body : List UInt8} (h : PF w0 w1 w pb bb mb v D is k cv fv ae ce ptrs f rd rd' fb cb L body) (hD2 : D.length < 1073741824) (hDi : D = itemsL is) (n : Nat) (c : LCommon) (x : LFrame) (hi : is[k]? = some (.fde n c x)) (hr : frB x = true) (z : Nat)
    (hcb : w0.heap.size ≤ cb) (hca : CieAt w1 v cb c) (hcap : ptrs.length ≤ 1000)
    (hbody : body = leL x.start 8 ++ leL x.size 8 ++ (callsL x.calls ++ List.replicate z 0)) :
    Calls Try.prog 85 #[ptrV pb] w fun e w' => e = .returned (.func (.func 68) #[] #[]) ∧
      ∃ ae' ce' rd'', PA w0 w' pb bb mb v D is (k + 1) cv (ptrV fb) ae' ce' (ptrs ++ [fb]) f rd'' := by
  obtain ⟨q1, q2, q3, q4, q5⟩ := fr_facts hr
  have hdrop := drop_item is k _ hi
  have hlen := congrArg List.length hdrop
  rw [← hDi] at hlen
  have hle := congrArg List.length h.hD
  simp only [List.length_drop, List.length_append] at hle hlen
  have hitem := offs_succ is k _ hi
  have hge := h.ge
  have hfs := h.a.fr.size
  obtain ⟨cs0, hcs0⟩ := hca.blk
  have hcb1 : cb ≠ pb := blk_ne hcs0 h.a.pc (by decide)
  have hcb2 : cb ≠ bb := blk_ne hcs0 h.a.bf.1 (by decide)
  have hcb3 : cb ≠ fb := by have := lt_heap hcs0; omega
  have hca' : CieAt w v cb c := hca.fr h.fr (by simpa using ⟨hcb1, hcb2⟩) (fun g hg => by have := h.a.vl g hg; have := h.a.gp; have := h.a.gb; simp; omega)
  obtain ⟨L0, N0, a0, n0, k0, z0, hc0, -⟩ := hca'
  have hrow0 : ∀ g, (Value.slice ae ptrs.length ce).ownBlock = some g → g ≠ pb ∧ g ≠ bb ∧ g ≠ fb ∧ v.ownBlock ≠ some g := fun g hg => by
    obtain ⟨cur, hcur⟩ := own_blk h.a.own hg
    have e1 := blk_ne hcur h.a.pc (by decide)
    have e2 := blk_ne hcur h.a.bf.1 (by decide)
    have := lt_heap hcur
    have := (h.a.own.lt g hg).1
    exact ⟨e1, e2, by omega, fun hv => by have := h.a.vl g hv; omega⟩
  have hown : w.ownsRow w0.heap.size 96 1 (.slice ae ptrs.length ce) ptrs.length (ptrs.map ptrV) := own_fr h.a.own h.fr (fun g hg => by have := hrow0 g hg; simpa using ⟨this.1, this.2.1⟩)
  have hpf : pb ≠ fb := blk_ne h.pc h.fd (by decide)
  have hbf : bb ≠ fb := blk_ne h.bf.1 h.fd (by decide)
  refine (parseFDE_any pb bb D.length ae ptrs.length ce mb fb cb cv L v D (offs is k + 8) rd' _ w0.heap.size (ptrs.map ptrV) w h.pc h.fd hc0 rfl h.bf rfl hown (by have := h.fr.size; omega) (by omega) (fun g hg => ?_) hrow0 h.a.d1 hpf hbf hcb1 hcb2 hcb3
    x.start x.size _ _ (by omega) (by omega) body hbody h.hD h.hb (by rw [h.hb]; omega)).mono ?_
  · have := h.a.vl g hg; have := h.a.gp; have := h.a.gb; have := h.fr.size; omega
  rintro e w' ⟨rfl, ae', ce', hpc, ho', ⟨a, n', c', hfd, hsl, hso⟩, ⟨rd'', hbf'⟩, hfr, hg'⟩
  have hF : Fr (pb :: bb :: fb :: (Value.slice ae ptrs.length ce).ownBlock.toList) w1 w' := (h.fr.mono (by simp +contextual)).trans hfr (fun i hi _ => hi)
  have hrow : ∀ g, g ∈ (Value.slice ae ptrs.length ce).ownBlock.toList → ∃ cur, w1.heap[g]? = some (.cells cur 96 (0, 0)) := fun g hg => own_blk h.a.own (by simpa using hg)
  have hnot : ∀ b cs t, w1.heap[b]? = some (.cells cs t (0, 0)) → t = 181 ∨ t = 154 → b ∉ pb :: bb :: fb :: (Value.slice ae ptrs.length ce).ownBlock.toList := fun b cs t hb ht => by
    have hne : t ≠ 150 ∧ t ≠ 79 ∧ t ≠ 96 := by rcases ht with rfl | rfl <;> decide
    have e1 := blk_ne hb h.a.pc hne.1
    have e2 := blk_ne hb h.a.bf.1 hne.2.1
    have := lt_heap hb
    intro hm
    simp only [List.mem_cons] at hm
    rcases hm with rfl | rfl | rfl | hm
    · exact e1 rfl
    · exact e2 rfl
    · omega
    · obtain ⟨cur, hcur⟩ := hrow b hm
      exact blk_ne hb hcur hne.2.2 rfl
  have hvn : ∀ g, v.ownBlock = some g → g ∉ pb :: bb :: fb :: (Value.slice ae ptrs.length ce).ownBlock.toList := fun g hg hm => by
    have h1 := h.a.vl g hg; have := h.a.gp; have := h.a.gb
    simp only [List.mem_cons] at hm
    rcases hm with rfl | rfl | rfl | hm
    · omega
    · omega
    · omega
    · have := (h.a.own.lt g (by simpa using hm)).1; omega
  have hoff : offs is k + 8 + L = offs is (k + 1) := by
    rw [hitem]; have := h.hb; have := h.bf.2.2.2.1; omega
  rw [hoff] at hbf'
  have hlenp : (ptrs ++ [fb]).length = ptrs.length + 1 := by simp
  refine ⟨rfl, ae', ce', rd'', by rw [hlenp]; exact hpc, hbf', ?_, ?_, ?_, h.a.vl, h.a.gp, h.a.gb, h.a.gm, ?_, ?_, ?_, ?_⟩
  · refine h.a.mp.fr hF (fun hm => ?_)
    simp only [List.mem_cons] at hm
    rcases hm with hm | hm | hm | hm
    · exact h.a.d2 hm.symm
    · exact h.a.d3 hm.symm
    · have := h.a.mp.lt; omega
    · obtain ⟨cur, hcur⟩ := hrow _ hm; exact map_ne hcur h.a.mp rfl
  · rw [hlenp, List.map_append]; exact ho'
  · refine h.a.fr.trans hF (fun i hi hlt => ?_)
    have := h.a.gp; have := h.a.gb
    simp only [List.mem_cons] at hi
    rcases hi with rfl | rfl | rfl | hi
    · omega
    · omega
    · omega
    · have := (h.a.own.lt i (by simpa using hi)).1; omega
  · intro j cj hj hcj
    by_cases hjk : j = k
    · subst hjk; rw [hi] at hcj; simp at hcj
    · obtain ⟨cb0, h1, h2, h3⟩ := h.a.cies j cj (by omega) hcj
      obtain ⟨cs, hcs⟩ := h3.blk
      exact ⟨cb0, h1, h2, h3.fr hF (hnot _ _ _ hcs (.inl rfl)) hvn⟩
  · rw [fdes_take_fde is k n c x hi, hlenp, h.a.fl]; simp
  · intro i fb0 c0 x0 hfb hx
    rw [fdes_take_fde is k n c x hi] at hx
    by_cases hil : i < ptrs.length
    · rw [List.getElem?_append_left hil] at hfb
      rw [List.getElem?_append_left (by rw [← h.a.fl]; exact hil)] at hx
      obtain ⟨h1, h2⟩ := h.a.fd i fb0 c0 x0 hfb hx
      refine ⟨h1, h2.fr hF (fun b cs t hb ht => ?_) hvn⟩
      obtain ⟨csf, hcsf⟩ := h2.blk
      rcases ht with rfl | rfl
      · exact hnot _ _ _ hb (.inl rfl)
      · exact hnot _ _ _ hcsf (.inr rfl)
    · have hi0 : i = ptrs.length := by
        have := (List.getElem?_eq_some_iff.1 hfb).1; rw [hlenp] at this; omega
      subst hi0
      simp at hfb
      rw [h.a.fl] at hx
      simp at hx
      obtain ⟨rfl, rfl⟩ := hx
      subst hfb
      refine ⟨by omega, _, cb, a, n', c', z, hfd, hsl, hso, ?_⟩
      exact hca.fr hF (hnot _ _ _ hcs0 (.inl rfl)) hvn
  · rw [List.nodup_append]
    refine ⟨h.a.nd, by simp, fun b hb b' hb' => ?_⟩
    simp at hb'
    subst hb'
    obtain ⟨i, hi', rfl⟩ := List.getElem_of_mem hb
    have hx : ∃ cx, (fdes (is.take k))[i]? = some cx := ⟨_, List.getElem?_eq_getElem (by rw [← h.a.fl]; exact hi')⟩
    obtain ⟨⟨c0, x0⟩, hx⟩ := hx
    obtain ⟨-, h2⟩ := h.a.fd i _ c0 x0 (List.getElem?_eq_getElem hi') hx
    obtain ⟨cs, hcs⟩ := h2.blk
    have := lt_heap hcs
    omega
end
end Go.Proofs.Ytahohmdfllgedaa
