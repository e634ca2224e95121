/- parseFDE. -/
import Derived.Test.YtahohmdfllgedaaPars5
namespace Go.Proofs.Ytahohmdfllgedaa
open Go.RowKit

set_option maxRecDepth 100000 in
set_option maxHeartbeats 20000000 in
theorem parseFDE_any (pb bb total : Nat) (ae : Option Addr) (ne ce : Nat) (mb fb cb : Nat) (cv : Value) (L : Nat) (v : Value) (D : List UInt8) (off : Nat) (rd : Bool) (cc : Array Value) (base : Nat) (ptrs : List Value) (w : World)
    (h : PC w pb bb total (.slice ae ne ce) mb cv (.pointer (some ⟨fb, 0, none⟩)) L) (hf : w.heap[fb]? = some (.cells #[.int .u32 (L : Int), .pointer (some ⟨cb, 0, none⟩), .slice none 0 0, .int .u64 0, .int .u64 0, .nilIface] 154 (0, 0))) (hc : w.heap[cb]? = some (.cells cc 181 (0, 0))) (hc9 : cc[9]? = some (.int .u8 0))
    (hb : BufR w bb v D off rd) (ht : total = D.length) (hown : w.ownsRow base 96 1 (.slice ae ne ce) ne ptrs) (hbase : base ≤ w.heap.size) (hne : ne ≤ 1000000)
    (hv : ∀ g, v.ownBlock = some g → g < w.heap.size ∧ g ≠ pb ∧ g ≠ bb ∧ g ≠ fb) (hev : ∀ g, (Value.slice ae ne ce).ownBlock = some g → g ≠ pb ∧ g ≠ bb ∧ g ≠ fb ∧ v.ownBlock ≠ some g) (hd1 : pb ≠ bb) (hd2 : pb ≠ fb) (hd3 : bb ≠ fb)
    (hd4 : cb ≠ pb) (hd5 : cb ≠ bb) (hd6 : cb ≠ fb)
    (start size : Nat) (ins rest : List UInt8) (hst : start < 18446744073709551616) (hsz : size < 18446744073709551616)
    (body : List UInt8) (hbody : body = leL start 8 ++ leL size 8 ++ ins) (hD : D.drop off = body ++ rest) (hL : L = body.length) (hL2 : L < 1073741824) :
    Calls Try.prog 85 #[.pointer (some ⟨pb, 0, none⟩)] w fun e w' => e = .returned (.func (.func 68) #[] #[]) ∧
      ∃ ae' ce', PC w' pb bb total (.slice ae' (ne + 1) ce') mb cv (.pointer (some ⟨fb, 0, none⟩)) 0 ∧ w'.ownsRow base 96 1 (.slice ae' (ne + 1) ce') (ne + 1) (ptrs ++ [.pointer (some ⟨fb, 0, none⟩)]) ∧
        (∃ a n c, w'.heap[fb]? = some (.cells #[.int .u32 (L : Int), .pointer (some ⟨cb, 0, none⟩), (.slice a n c), .int .u64 (start : Int), .int .u64 (size : Int), .nilIface] 154 (0, 0)) ∧ Sl w' (.slice a n c) (vbs ins) ∧ (∀ g, (Value.slice a n c).ownBlock = some g → v.ownBlock = some g)) ∧
        (∃ rd', BufR w' bb v D (off + L) rd') ∧ Fr (pb :: bb :: fb :: (Value.slice ae ne ce).ownBlock.toList) w w' ∧ (∀ g, (Value.slice ae' (ne + 1) ce').ownBlock = some g → (Value.slice ae ne ce).ownBlock = some g ∨ w.heap.size ≤ g) := by
  have hDl : off + L ≤ D.length := by
    have := congrArg List.length hD; rw [List.length_drop, List.length_append] at this; have := hb.2.2.2.1; omega
  have hbl : body.length = 16 + ins.length := by rw [hbody]; simp [leL_length]; omega
  have hDp : 0 < D.length := by omega
  have htake : (D.drop off).take L = body := by rw [hD, hL, List.take_left]
  have hcap : body.length ≤ 1099511627776 := by omega
  have V1 : Hid (leval ((body.drop 0).take 8) = start) := by
    show _ = _
    rw [List.drop_zero, hbody, List.append_assoc, List.take_append_of_le_length (by rw [leL_length]; omega), List.take_of_length_le (by rw [leL_length]; omega), leval_leL]; exact Nat.mod_eq_of_lt hst
  have V2 : Hid (leval ((body.drop (0 + 8)).take 8) = size) := by
    show _ = _
    rw [hbody, List.append_assoc, Nat.zero_add, List.drop_append_of_le_length (by rw [leL_length]; omega), List.drop_of_length_le (by rw [leL_length]; omega), List.nil_append, List.take_append_of_le_length (by rw [leL_length]; omega), List.take_of_length_le (by rw [leL_length]; omega), leval_leL]
    exact Nat.mod_eq_of_lt hsz
  have V3 : Hid (body.drop (0 + 8 + 8) = ins) := by
    show _ = _
    rw [hbody, List.append_assoc, ← List.append_assoc, List.drop_append_of_le_length (by simp [leL_length]), List.drop_of_length_le (by simp [leL_length]), List.nil_append]
  have hwl : IntKind.i64.wrap (L : Int) = (L : Int) := IntWalk.i64_in _ (by omega)
  have HWS : Hid (IntKind.u64.wrap (start : Int) = (start : Int)) := by show _ = _; simp [IntKind.wrap, IntKind.signed, IntKind.bits]; omega
  have c1 : w.cell? ⟨pb, 1, none⟩ = some (.pointer (some ⟨bb, 0, none⟩)) := blk_cell h 1
  have c7 : w.cell? ⟨pb, 7, none⟩ = some (.int .u32 (L : Int)) := blk_cell h 7
  have H := Lib.hid h
  have HfD := Lib.hid hf
  have Hc := Lib.hid hc
  have Hc9 := Lib.hid hc9
  have Hb := Lib.hid hb
  have Ht := Lib.hid ht
  have Hown := Lib.hid hown
  have Hbase := Lib.hid hbase
  have Hv := Lib.hid hv
  have Hev := Lib.hid hev
  have Hd1 := Lib.hid hd1
  have Hd2 := Lib.hid hd2
  have Hd3 := Lib.hid hd3
  have Hd4 := Lib.hid hd4
  have Hd5 := Lib.hid hd5
  have Hd6 := Lib.hid hd6
  have HT := Lib.hid htake
  have HL := Lib.hid hL
  clear h hf hc hc9 hb ht hown hbase hv hev hd1 hd2 hd3 hd4 hd5 hd6 hbody hD hL htake hst hsz
  go_enter Try.func85, Try.ntmps85
  go_wp2_with (go_at_call 81; refine (pOffset_any pb bb total _ mb cv _ L v D off rd _ H.out Hb.out Ht.out).mono ?_; rintro e w' ⟨rfl, kq, rfl⟩)
  have HFq : Hid (Fr [] w (w.drewN kq)) := (Fr.refl _ _).drewN _
  have q1 : (w.drewN kq).cell? ⟨pb, 1, none⟩ = some (.pointer (some ⟨bb, 0, none⟩)) := HFq.out.cell c1 (by simp)
  have q7 : (w.drewN kq).cell? ⟨pb, 7, none⟩ = some (.int .u32 (L : Int)) := HFq.out.cell c7 (by simp)
  generalize w.drewN kq = wq at *
  clear c1 c7
  go_region_held3 (fun w' => w'.cell? ⟨pb, 1, none⟩ = some (.pointer (some ⟨bb, 0, none⟩)) ∧ w'.cell? ⟨pb, 7, none⟩ = some (.int .u32 (L : Int)))
    (first | exact ⟨q1, q7⟩ | exact ⟨HF2'.out.cell q1 (by simpa using Hd1.out), HF2'.out.cell q7 (by simpa using Hd1.out)⟩)
    ((go_at_call 115; go_must (refine (BufNext_any bb v D off L rd _ (Hb.out.fr (HFq.out.drew) (by simp) (by simp)) hDl hDp).mono ?_); rw [HT.out]; rintro e w2 ⟨⟨a2, ca2, rfl, hs2, ho2⟩, hb2, hf2⟩; have HS2 := Lib.hid hs2; have HO2 := Lib.hid ho2; have HB2 := Lib.hid hb2; have HF2' : Hid (Fr [bb] wq w2) := (Fr.refl [bb] wq).drew.trans hf2 (fun i h _ => h); have HF2 : Hid (Fr [bb] w w2) := (HFq.out.mono (by simp)).trans HF2'.out (fun i h _ => h); clear hs2 ho2 hb2 hf2))
  clear q1 q7 hwl
  go_wp2_with (go_at_call 119; refine (NewReader_any a2 L ca2 _).mono ?_; rintro e w3 ⟨rfl, rfl⟩)
  have hg3 : Fr [] w2 (w2.alloc (.cells #[.slice a2 L ca2, .int .i64 0] 220 (0, 0))) := (Fr.refl _ _).alloc _
  have hv2 : ∀ g, (Value.slice a2 L ca2).ownBlock = some g → g < w2.heap.size := fun g hg => by have := (Hv.out g (HO2.out g hg)).1; have := HF2.out.size; omega
  have hb3 : RdrR (w2.alloc (.cells #[.slice a2 L ca2, .int .i64 0] 220 (0, 0))) w2.heap.size (.slice a2 L ca2) body 0 := RdrR_new HS2.out hv2 hcap
  have C3 : Hid (FI [pb, fb] w2 (w2.alloc (.cells #[.slice a2 L ca2, .int .i64 0] 220 (0, 0))) pb bb total (.slice ae ne ce) mb fb w2.heap.size cv L #[.int .u32 (L : Int), .pointer (some ⟨cb, 0, none⟩), .slice none 0 0, .int .u64 0, .int .u64 0, .nilIface] (.slice a2 L ca2) body 0) :=
    ⟨(H.out.fr HF2.out (by simpa using Hd1.out)).fr hg3 (by simp), hg3.get (HF2.out.get HfD.out (by simpa using Hd3.out.symm)) (by simp), hb3, hg3.mono (by simp), (by simp), (by simp), Hd2.out,
      (by have := lt_heap H.out; have := HF2.out.size; omega), (by have := lt_heap HfD.out; have := HF2.out.size; omega), (fun g hg => by have := Hv.out g (HO2.out g hg); exact ⟨this.2.2.2, this.2.1⟩), hv2, Nat.le_refl _⟩
  have K3 : Hid (w2.heap[cb]? = some (.cells cc 181 (0, 0))) := HF2.out.get Hc.out (by simpa using Hd5.out)
  generalize w2.alloc (.cells #[.slice a2 L ca2, .int .i64 0] 220 (0, 0)) = w3 at *
  clear hg3 hb3 hv2
  obtain ⟨rb, hrb⟩ : ∃ rb, w2.heap.size = rb := ⟨_, rfl⟩
  rw [hrb] at C3 ⊢
  clear hrb
  have KC : Hid (∀ w', Fr [pb, fb] w2 w' → w'.cell? ⟨cb, 9, none⟩ = some (.int .u8 0)) := fun w' f => by rw [blk_cell (f.get K3.out (by simpa using ⟨Hd4.out, Hd6.out⟩))]; exact Hc9.out
  have k9 : w3.cell? ⟨pb, 9, none⟩ = some (.int .u64 0) := blk_cell C3.out.pc 9
  have k6 : w3.cell? ⟨pb, 6, none⟩ = some (.pointer (some ⟨fb, 0, none⟩)) := blk_cell C3.out.pc 6
  have f1 : w3.cell? ⟨fb, 1, none⟩ = some (.pointer (some ⟨cb, 0, none⟩)) := blk_cell C3.out.fd 1
  have x9 := KC.out _ C3.out.fr
  go_wp2_with fail
  go_region_held3 (fun w' => w'.cell? ⟨pb, 9, none⟩ = some (.int .u64 0) ∧ w'.cell? ⟨pb, 6, none⟩ = some (.pointer (some ⟨fb, 0, none⟩)) ∧ w'.cell? ⟨fb, 1, none⟩ = some (.pointer (some ⟨cb, 0, none⟩)) ∧ w'.cell? ⟨cb, 9, none⟩ = some (.int .u8 0))
    (first | exact ⟨blk_cell C5.out.pc 9, blk_cell C5.out.pc 6, blk_cell C5.out.fd 1, KC.out _ C5.out.fr⟩ | exact ⟨blk_cell C4.out.pc 9, blk_cell C4.out.pc 6, blk_cell C4.out.fd 1, KC.out _ C4.out.fr⟩ | exact ⟨k9, k6, f1, x9⟩)
    (first | (have _t := C4; go_at_call 118; go_must (refine (readEncodedPtr_zero pb bb total _ mb cv _ L _ rb _ body 0 _ C4.out.pc C4.out.rd (by omega) (fun g hg => Nat.lt_of_lt_of_le (C4.out.v2 g hg) C4.out.fr.size)).mono ?_); rw [V1.out]; rintro e w5 ⟨rfl, hb5, hf5⟩; have C5 := Lib.hid (C4.out.call hb5 hf5); clear hb5 hf5)
           | (go_at_call 120; go_must (refine (addrSum_any _ rb _ body 0 _ (C3.out.idle (Fr.drew (Fr.refl [] w3))).rd).mono ?_); rintro e w4 ⟨⟨y, rfl⟩, hb4, hf4⟩; have C4 := Lib.hid ((C3.out.idle (Fr.drew (Fr.refl [] w3))).call hb4 hf4); clear hb4 hf4))
  clear k9 k6 f1 x9
  have k6 : w5.cell? ⟨pb, 6, none⟩ = some (.pointer (some ⟨fb, 0, none⟩)) := blk_cell C5.out.pc 6
  have k0 : w5.cell? ⟨pb, 0, none⟩ = some (.int .u64 0) := blk_cell C5.out.pc 0
  have f3 : w5.drew.cell? ⟨fb, 3, none⟩ = some (.int .u64 0) := blk_cell C5.out.fd 3
  have z3 : w5.drew.frozen? ⟨fb, 3, none⟩ = false := blk_free C5.out.fd 3
  have hws := HWS.out
  have KB : Hid (∀ n, (w5.setCell ⟨fb, 3, none⟩ n).drew.cell? ⟨pb, 6, none⟩ = some (.pointer (some ⟨fb, 0, none⟩)) ∧ (w5.setCell ⟨fb, 3, none⟩ n).drew.cell? ⟨pb, 0, none⟩ = some (.int .u64 0)) := fun n => ⟨blk_cell (C5.out.store 3 n).pc 6, blk_cell (C5.out.store 3 n).pc 0⟩
  go_wp2_with fail
  go_region_held3 (fun w' => w'.cell? ⟨pb, 6, none⟩ = some (.pointer (some ⟨fb, 0, none⟩)) ∧ w'.cell? ⟨pb, 0, none⟩ = some (.int .u64 0))
    (first | exact ⟨k6, k0⟩ | with_reducible exact KB.out _)
    (fail)
  have hC6 := (C5.out.store 3 (.int .u64 (start : Int))).idle (Fr.drew (Fr.refl [] _))
  generalize (w5.setCell ⟨fb, 3, none⟩ (.int .u64 (start : Int))).drew = w6 at *
  have C6 : Hid (FI [pb, fb] w2 w6 pb bb total (.slice ae ne ce) mb fb rb cv L #[.int .u32 (L : Int), .pointer (some ⟨cb, 0, none⟩), .slice none 0 0, .int .u64 (start : Int), .int .u64 0, .nilIface] (.slice a2 L ca2) body (0 + 8)) := hC6
  clear hC6 k6 k0 f3 z3 KB hws
  have k6 : w6.cell? ⟨pb, 6, none⟩ = some (.pointer (some ⟨fb, 0, none⟩)) := blk_cell C6.out.pc 6
  have f1 : w6.cell? ⟨fb, 1, none⟩ = some (.pointer (some ⟨cb, 0, none⟩)) := blk_cell C6.out.fd 1
  have x9 := KC.out _ C6.out.fr
  have hb15 : bits .and .u8 0 15 = 0 := by decide +kernel
  go_wp2_with fail
  clear f1 x9 hb15
  go_region_held3 (fun w' => w'.cell? ⟨pb, 6, none⟩ = some (.pointer (some ⟨fb, 0, none⟩)))
    (first | exact k6 | exact k7 | with_reducible exact KB.out _)
    ((go_at_call 118; go_must (refine (readEncodedPtr_zero pb bb total _ mb cv _ L _ rb _ body (0 + 8) _ (C6.out.idle (Fr.drew (Fr.refl [] w6))).pc (C6.out.idle (Fr.drew (Fr.refl [] w6))).rd (by omega) (fun g hg => Nat.lt_of_lt_of_le (C6.out.v2 g hg) C6.out.fr.size)).mono ?_); rw [V2.out]; rintro e u7 ⟨rfl, hb7, hf7⟩; have C7' := Lib.hid ((C6.out.idle (Fr.drew (Fr.refl [] w6))).call hb7 hf7); have k7 : u7.cell? ⟨pb, 6, none⟩ = some (.pointer (some ⟨fb, 0, none⟩)) := blk_cell C7'.out.pc 6; have s : u7.cell? ⟨fb, 4, none⟩ = some (.int .u64 0) := blk_cell C7'.out.fd 4; have z : u7.frozen? ⟨fb, 4, none⟩ = false := blk_free C7'.out.fd 4; have KB : Hid (∀ n, (u7.setCell ⟨fb, 4, none⟩ n).cell? ⟨pb, 6, none⟩ = some (.pointer (some ⟨fb, 0, none⟩))) := fun n => blk_cell (C7'.out.store 4 n).pc 6; clear hb7 hf7))
  have hC7 := C7'.out.store 4 (.int .u64 (size : Int))
  generalize u7.setCell ⟨fb, 4, none⟩ (.int .u64 (size : Int)) = w7 at *
  have C7 : Hid (FI [pb, fb] w2 w7 pb bb total (.slice ae ne ce) mb fb rb cv L #[.int .u32 (L : Int), .pointer (some ⟨cb, 0, none⟩), .slice none 0 0, .int .u64 (start : Int), .int .u64 (size : Int), .nilIface] (.slice a2 L ca2) body (0 + 8 + 8)) := hC7
  clear hC7 k6 k7 s z KB C7'
  have k3 : w7.cell? ⟨pb, 3, none⟩ = some (.slice ae ne ce) := blk_cell C7.out.pc 3
  have k6 : w7.cell? ⟨pb, 6, none⟩ = some (.pointer (some ⟨fb, 0, none⟩)) := blk_cell C7.out.pc 6
  have O7 : Hid (∀ o, (w7.alloc o).drew.ownsRow base 96 1 (.slice ae ne ce) ne ptrs) := fun o => own_fr (own_fr Hown.out HF2.out (fun g hg => by simpa using (Hev.out g hg).2.1)) ((C7.out.fr.alloc o).drew) (fun g hg => by have := Hev.out g hg; simpa using ⟨this.1, this.2.2.1⟩)
  have SZ : Hid (w.heap.size ≤ w7.heap.size) := Nat.le_trans HF2.out.size C7.out.fr.size
  have hrbn : Hid (∀ g, (Value.slice ae ne ce).ownBlock = some g → g < w2.heap.size) := fun g hg => by have := (Hown.out.lt g hg).2; have := HF2.out.size; omega
  have hna : Hid (∀ k ∈ (Value.slice ae ne ce).ownBlock.toList, k ≠ pb ∧ k ≠ fb ∧ k ≠ rb ∧ (Value.slice a2 L ca2).ownBlock ≠ some k) := fun k hk => by
    have hk' : (Value.slice ae ne ce).ownBlock = some k := by simpa using hk
    have := Hev.out k hk'
    exact ⟨this.1, this.2.2.1, (fun e => by have := hrbn.out k hk'; have := C7.out.nw; omega), fun e => this.2.2.2 (HO2.out k e)⟩
  have k3a : ∀ o, (w7.alloc o).drew.cell? ⟨pb, 3, none⟩ = some (.slice ae ne ce) := fun o => ((Fr.refl [] w7).alloc o).drew.cell k3 (by simp)
  go_wp2_with fail
  have hsz7 : Hid (pb < w7.heap.size ∧ fb < w7.heap.size ∧ rb < w7.heap.size) := ⟨lt_heap C7.out.pc, lt_heap C7.out.fd, lt_heap C7.out.rd.1⟩
  go_cut [] from 83 to 95 (fun wx => ∃ a8 c8, wx.ownsRow base 96 1 (.slice a8 (ne + 1) c8) (ne + 1) (ptrs ++ [.pointer (some ⟨fb, 0, none⟩)]) ∧ (∀ g, (Value.slice a8 (ne + 1) c8).ownBlock = some g → (Value.slice ae ne ce).ownBlock = some g ∨ w7.heap.size ≤ g) ∧
    FI ((Value.slice ae ne ce).ownBlock.toList ++ [pb, fb]) w2 wx pb bb total (.slice a8 (ne + 1) c8) mb fb rb cv L #[.int .u32 (L : Int), .pointer (some ⟨cb, 0, none⟩), .slice none 0 0, .int .u64 (start : Int), .int .u64 (size : Int), .nilIface] (.slice a2 L ca2) body (0 + 8 + 8))
  case first =>
    go_region_law ((refine step_app2 slicePF _ (by rfl) _ _ (by rfl) base _ ne ptrs (by rfl) (O7.out _) (some ⟨w7.heap.size, 0, none⟩) 1 1 [.pointer (some ⟨fb, 0, none⟩)] (by rfl) (by rfl) (fun h => by cases h) (news_blk (blk_new w7 _)) (by simp [Value.oneCell']) (by omega) (by decide) (by have := SZ.out; have := Hbase.out; simp; omega) ?_; intro a8 c8 w8 ho8 hf8 hg8; have HO8 := Lib.hid ho8; have HG8 := Lib.hid hg8; have P8 := Lib.hid (C7.out.app (((Fr.refl _ w7).alloc _).drew.trans hf8 (fun i h _ => h)) hna.out); have s : w8.cell? ⟨pb, 3, none⟩ = some (.slice ae ne ce) := blk_cell P8.out.pc 3; have z : w8.frozen? ⟨pb, 3, none⟩ = false := blk_free P8.out.pc 3; have KB : Hid (∀ n, (w8.setCell ⟨pb, 3, none⟩ n).cell? ⟨pb, 6, none⟩ = some (.pointer (some ⟨fb, 0, none⟩))) := fun n => blk_cell (P8.out.setEntries n).pc 6; clear ho8 hf8 hg8))
    all_goals
      go_wp2_with fail
      go_meet
      have hg' : ∀ g, (Value.slice a8 (ne + 1) c8).ownBlock = some g → (Value.slice ae ne ce).ownBlock = some g ∨ w7.heap.size ≤ g := fun g hg => (HG8.out g hg).imp id (fun h => by simp at h; omega)
      refine ⟨a8, c8, own_fr HO8.out ((Fr.refl [pb] w8).setCell (.inl (by simp)) _) (fun g hg => ?_), hg', P8.out.setEntries _⟩
      rcases hg' g hg with h | h
      · simpa using (Hev.out g h).1
      · have := lt_heap C7.out.pc; simp; omega
  case rest =>
    obtain ⟨a8, c8, ho8, hg8, hC8⟩ := hcut
    have HO8 := Lib.hid ho8
    have HG8 := Lib.hid hg8
    have C8 := Lib.hid hC8
    clear ho8 hg8 hC8 k3 k6 O7 hrbn k3a C7
    go_wp2_with (first | (go_at_call 114; refine (parsingEH_any pb bb total _ mb cv _ L _ C8.out.pc).mono ?_; rintro e w' ⟨rfl, rfl⟩) | (go_at_call 121; go_must (refine (RdrSeek_zero rb _ body (0 + 8 + 8) _ C8.out.rd).mono ?_); rintro e w9 ⟨rfl, hb9, hf9⟩; have C9 := Lib.hid (C8.out.call hb9 hf9); have F9 := Lib.hid hf9; clear hb9 hf9))
    have k6 : w9.cell? ⟨pb, 6, none⟩ = some (.pointer (some ⟨fb, 0, none⟩)) := blk_cell C9.out.pc 6
    obtain ⟨qa, qc, hqv, hq1, hq2, hq3, -⟩ := C9.out.rd.2.1.shape
    obtain ⟨gs, os, rfl, hqc⟩ := hq3 (by omega)
    simp only [Value.slice.injEq] at hqv
    obtain ⟨rfl, hLb, rfl⟩ := hqv
    have HLb := Lib.hid hLb
    have HQC := Lib.hid hqc
    unfold maxLen at hq2
    have hL16 : (16 : Int) ≤ (L : Int) := by omega
    have hc16 : (16 : Int) ≤ (ca2 : Int) := by omega
    have hLca : (L : Int) ≤ (ca2 : Int) := by omega
    clear hLb hqc hq3 hq1
    have f2 : w9.drew.cell? ⟨fb, 2, none⟩ = some (.slice none 0 0) := blk_cell C9.out.fd 2
    have z2 : w9.drew.frozen? ⟨fb, 2, none⟩ = false := blk_free C9.out.fd 2
    have KB : Hid (∀ n, (w9.setCell ⟨fb, 2, none⟩ n).drew.cell? ⟨pb, 6, none⟩ = some (.pointer (some ⟨fb, 0, none⟩))) := fun n => blk_cell (C9.out.store 2 n).pc 6
    go_wp2_with fail
    by_cases hcc : ca2 = 16
    · subst hcc
      have hL0 : L = 16 := by omega
      have HL0 := Lib.hid hL0
      clear hL0
      go_region_held3 (fun w' => w'.cell? ⟨pb, 6, none⟩ = some (.pointer (some ⟨fb, 0, none⟩)))
        (first | exact k6 | with_reducible exact KB.out _)
        (fail)
      have hF10 : Fr [rb, fb, pb] wc (w9.setCell ⟨fb, 2, none⟩ (.slice (some ⟨gs, os, none⟩) (L - 16) 0)).drew := ((F9.out.mono (by simp)).setCell (.inl (by simp)) _).drew
      have hC10 := (C9.out.store 2 (.slice (some ⟨gs, os, none⟩) (L - 16) 0)).idle (Fr.drew (Fr.refl [] _))
      generalize (w9.setCell ⟨fb, 2, none⟩ (.slice (some ⟨gs, os, none⟩) (L - 16) 0)).drew = w10 at *
      have C10 : Hid (FI ((Value.slice ae ne ce).ownBlock.toList ++ [pb, fb]) w2 w10 pb bb total (.slice a8 (ne + 1) c8) mb fb rb cv L #[.int .u32 (L : Int), .pointer (some ⟨cb, 0, none⟩), (.slice (some ⟨gs, os, none⟩) (L - 16) 0), .int .u64 (start : Int), .int .u64 (size : Int), .nilIface] (.slice (some ⟨gs, os, none⟩) L 16) body (0 + 8 + 8)) := hC10
      have F10 := Lib.hid hF10
      clear hC10 hF10 f2 z2 KB k6
      have s7 : w10.cell? ⟨pb, 7, none⟩ = some (.int .u32 (L : Int)) := blk_cell C10.out.pc 7
      have z7 : w10.frozen? ⟨pb, 7, none⟩ = false := blk_free C10.out.pc 7
      go_wp2_with fail
      go_ret
      have C11 := C10.out.setLen 0
      have hbse : ∀ g, (Value.slice a8 (ne + 1) c8).ownBlock = some g → g ≠ fb ∧ g ≠ pb ∧ g ≠ rb := fun g hg => by
        rcases HG8.out g hg with h | h
        · have h2 := hna.out g (by simpa using h); exact ⟨h2.2.1, h2.1, h2.2.2.1⟩
        · have := hsz7.out; omega
      refine ⟨rfl, a8, c8, C11.pc, ?_, ⟨_, _, _, C11.fd, ?_, fun g hg => HO2.out g hg⟩, ?_, ?_, fun g hg => (HG8.out g hg).imp id (fun h => Nat.le_trans SZ.out h)⟩
      · exact own_fr HO8.out (F10.out.setCell (p := ⟨pb, 7, none⟩) (.inl (by simp)) _) (fun g hg => by have := hbse g hg; simp; exact ⟨this.2.2, this.1, this.2.1⟩)
      · rw [show ins = [] from List.eq_nil_of_length_eq_zero (by have := HLb.out; omega)]; exact sl_mk (by have := HL0.out; simp; omega) (by have := HL0.out; omega) (by unfold maxLen; omega) (fun i v hi => by simp at hi)
      · have hv3 : ∀ g, v.ownBlock = some g → g ∉ (Value.slice ae ne ce).ownBlock.toList ++ [pb, fb] := fun g hg hm => by
          rcases List.mem_append.1 hm with h | h
          · exact (Hev.out g (by simpa using h)).2.2.2 hg
          · have := Hv.out g hg; simp at h; rcases h with rfl | rfl
            · exact this.2.1 rfl
            · exact this.2.2.2 rfl
        exact ⟨_, HB2.out.fr C11.fr (fun hm => by
          rcases List.mem_append.1 hm with h | h
          · exact (Hev.out _ (by simpa using h)).2.1 rfl
          · simp at h; rcases h with h | h
            · exact Hd1.out h.symm
            · exact Hd3.out h) hv3⟩
      · refine (HF2.out.mono (bs := pb :: bb :: fb :: (Value.slice ae ne ce).ownBlock.toList) (by simp)).trans C11.fr (fun i hi _ => ?_)
        rcases List.mem_append.1 hi with h | h
        · exact List.mem_cons_of_mem _ (List.mem_cons_of_mem _ (List.mem_cons_of_mem _ h))
        · simp at h; rcases h with rfl | rfl <;> simp
    · go_region_held3 (fun w' => w'.cell? ⟨pb, 6, none⟩ = some (.pointer (some ⟨fb, 0, none⟩)))
        (first | exact k6 | with_reducible exact KB.out _)
        (fail)
      have hF10 : Fr [rb, fb, pb] wc (w9.setCell ⟨fb, 2, none⟩ (.slice (some ⟨gs, os + 16, none⟩) (L - 16) (ca2 - 16))).drew := ((F9.out.mono (by simp)).setCell (.inl (by simp)) _).drew
      have hC10 := (C9.out.store 2 (.slice (some ⟨gs, os + 16, none⟩) (L - 16) (ca2 - 16))).idle (Fr.drew (Fr.refl [] _))
      generalize (w9.setCell ⟨fb, 2, none⟩ (.slice (some ⟨gs, os + 16, none⟩) (L - 16) (ca2 - 16))).drew = w10 at *
      have C10 : Hid (FI ((Value.slice ae ne ce).ownBlock.toList ++ [pb, fb]) w2 w10 pb bb total (.slice a8 (ne + 1) c8) mb fb rb cv L #[.int .u32 (L : Int), .pointer (some ⟨cb, 0, none⟩), (.slice (some ⟨gs, os + 16, none⟩) (L - 16) (ca2 - 16)), .int .u64 (start : Int), .int .u64 (size : Int), .nilIface] (.slice (some ⟨gs, os, none⟩) L ca2) body (0 + 8 + 8)) := hC10
      have F10 := Lib.hid hF10
      clear hC10 hF10 f2 z2 KB k6
      have s7 : w10.cell? ⟨pb, 7, none⟩ = some (.int .u32 (L : Int)) := blk_cell C10.out.pc 7
      have z7 : w10.frozen? ⟨pb, 7, none⟩ = false := blk_free C10.out.pc 7
      go_wp2_with fail
      go_ret
      have C11 := C10.out.setLen 0
      have hbse : ∀ g, (Value.slice a8 (ne + 1) c8).ownBlock = some g → g ≠ fb ∧ g ≠ pb ∧ g ≠ rb := fun g hg => by
        rcases HG8.out g hg with h | h
        · have h2 := hna.out g (by simpa using h); exact ⟨h2.2.1, h2.1, h2.2.2.1⟩
        · have := hsz7.out; omega
      refine ⟨rfl, a8, c8, C11.pc, ?_, ⟨_, _, _, C11.fd, ?_, fun g hg => HO2.out g hg⟩, ?_, ?_, fun g hg => (HG8.out g hg).imp id (fun h => Nat.le_trans SZ.out h)⟩
      · exact own_fr HO8.out (F10.out.setCell (p := ⟨pb, 7, none⟩) (.inl (by simp)) _) (fun g hg => by have := hbse g hg; simp; exact ⟨this.2.2, this.1, this.2.1⟩)
      · have hq4 : Cells (w10.setCell ⟨pb, 7, none⟩ (.int .u32 ((0 : Nat) : Int))) gs (os + 16) (vbs ins) := by
          have := (C11.rd.2.1)
          obtain ⟨g', o', c', hv', h1', h2', h3'⟩ := sl_some this (by have := HLb.out; simp; omega)
          simp only [Value.slice.injEq, Option.some.injEq, Addr.mk.injEq] at hv'
          obtain ⟨⟨rfl, rfl, -⟩, -, -⟩ := hv'
          have := h3'.drop 16
          rw [← V3.out]; simpa [List.map_drop] using this
        exact sl_mk (by have := HLb.out; simp; omega) (by omega) (by unfold maxLen; omega) hq4
      · have hv3 : ∀ g, v.ownBlock = some g → g ∉ (Value.slice ae ne ce).ownBlock.toList ++ [pb, fb] := fun g hg hm => by
          rcases List.mem_append.1 hm with h | h
          · exact (Hev.out g (by simpa using h)).2.2.2 hg
          · have := Hv.out g hg; simp at h; rcases h with rfl | rfl
            · exact this.2.1 rfl
            · exact this.2.2.2 rfl
        exact ⟨_, HB2.out.fr C11.fr (fun hm => by
          rcases List.mem_append.1 hm with h | h
          · exact (Hev.out _ (by simpa using h)).2.1 rfl
          · simp at h; rcases h with h | h
            · exact Hd1.out h.symm
            · exact Hd3.out h) hv3⟩
      · refine (HF2.out.mono (bs := pb :: bb :: fb :: (Value.slice ae ne ce).ownBlock.toList) (by simp)).trans C11.fr (fun i hi _ => ?_)
        rcases List.mem_append.1 hi with h | h
        · exact List.mem_cons_of_mem _ (List.mem_cons_of_mem _ (List.mem_cons_of_mem _ h))
        · simp at h; rcases h with rfl | rfl <;> simp
end Go.Proofs.Ytahohmdfllgedaa
