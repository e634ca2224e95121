/- parseFDE.
The entries of a section, one behind the other; what the parser has made of them so far.
The parser's rounds: from one entry to the next.
dvframe.Parse over a section of right entries: all frames, each with its common entry.
The entry of a place: Cover, sort.Search over the ends, FDEForPC.
sort.Search over a closure that keeps what I says of the world.
FDEForPC.
Rules of call frames: the reference's machine and the package's machine in plain Lean; where the reference has an answer, the package's machine has the same. No program in sight.
Ranges over a map that is read as a partial function: what has been handed out so far; the keys; how many there are. No program in sight.
The package's machine for call frame instructions in memory: its context's block, the buffer, the maps of rules, the stack. -/
import Derived.Test.YtahohmdfllgedaaGreatFa6
import Derived.Test.YtahohmdfllgedaaGreatFa5
import Derived.Test.YtahohmdfllgedaaGreatRows
import Derived.Lib.Walk
import Derived.WalkKit
import Derived.Deep.LoopGhost
import Derived.Deep.Draws
import Derived.Deep.QuietTactic
import Derived.Lib.Strings
import Derived.Lib.Slices
import Derived.Lib.Small
import Derived.Test.YtahohmdfllgedaaGreatFa1
import Derived.Maps.RangeRun
set_option linter.unusedVariables false
set_option linter.unusedSimpArgs false
namespace Go.Proofs.YtahohmdfllgedaaGreat
open Go.RowKit

set_option maxRecDepth 100000 in
set_option maxHeartbeats 20000000 in
theorem parseFDE_any (pb bb total : Nat) (ae : Option Addr) (ne ce : Nat) (mb fb cb : Nat) (cv : Value) (L : Nat) (v : Value) (D : List UInt8) (off : Nat) (rd : Bool) (cc : Array Value) (base : Nat) (ptrs : List Value) (w : World)
    (h : PC w pb bb total (.slice ae ne ce) mb cv (.pointer (some ⟨fb, 0, none⟩)) L) (hf : w.heap[fb]? = some (.cells #[.int .u32 (L : Int), .pointer (some ⟨cb, 0, none⟩), .slice none 0 0, .int .u64 0, .int .u64 0, .nilIface] 114 (0, 0))) (hc : w.heap[cb]? = some (.cells cc 138 (0, 0))) (hc9 : cc[9]? = some (.int .u8 0))
    (hb : BufR w bb v D off rd) (ht : total = D.length) (hown : w.ownsRow base 70 1 (.slice ae ne ce) ne ptrs) (hbase : base ≤ w.heap.size) (hne : ne ≤ 1000000)
    (hv : ∀ g, v.ownBlock = some g → g < w.heap.size ∧ g ≠ pb ∧ g ≠ bb ∧ g ≠ fb) (hev : ∀ g, (Value.slice ae ne ce).ownBlock = some g → g ≠ pb ∧ g ≠ bb ∧ g ≠ fb ∧ v.ownBlock ≠ some g) (hd1 : pb ≠ bb) (hd2 : pb ≠ fb) (hd3 : bb ≠ fb)
    (hd4 : cb ≠ pb) (hd5 : cb ≠ bb) (hd6 : cb ≠ fb)
    (start size : Nat) (ins rest : List UInt8) (hst : start < 18446744073709551616) (hsz : size < 18446744073709551616)
    (body : List UInt8) (hbody : body = leL start 8 ++ leL size 8 ++ ins) (hD : D.drop off = body ++ rest) (hL : L = body.length) (hL2 : L < 1073741824) :
    Calls Tryz.prog 56 #[.pointer (some ⟨pb, 0, none⟩)] w fun e w' => e = .returned (.func (.func 40) #[] #[]) ∧
      ∃ ae' ce', PC w' pb bb total (.slice ae' (ne + 1) ce') mb cv (.pointer (some ⟨fb, 0, none⟩)) 0 ∧ w'.ownsRow base 70 1 (.slice ae' (ne + 1) ce') (ne + 1) (ptrs ++ [.pointer (some ⟨fb, 0, none⟩)]) ∧
        (∃ a n c, w'.heap[fb]? = some (.cells #[.int .u32 (L : Int), .pointer (some ⟨cb, 0, none⟩), (.slice a n c), .int .u64 (start : Int), .int .u64 (size : Int), .nilIface] 114 (0, 0)) ∧ Sl w' (.slice a n c) (vbs ins) ∧ (∀ g, (Value.slice a n c).ownBlock = some g → v.ownBlock = some g)) ∧
        (∃ rd', BufR w' bb v D (off + L) rd') ∧ Fr (pb :: bb :: fb :: (Value.slice ae ne ce).ownBlock.toList) w w' ∧ (∀ g, (Value.slice ae' (ne + 1) ce').ownBlock = some g → (Value.slice ae ne ce).ownBlock = some g ∨ w.heap.size ≤ g) := by
  have hDl : off + L ≤ D.length := by
    have := congrArg List.length hD; rw [List.length_drop, List.length_append] at this; have := hb.2.2.2.1; omega
  have hbl : body.length = 16 + ins.length := by rw [hbody]; simp [leL_length]; omega
  have hDp : 0 < D.length := by omega
  have htake : (D.drop off).take L = body := by rw [hD, hL, List.take_left]
  have hcap : body.length ≤ 1099511627776 := by omega
  have V1 : Hid (leval ((body.drop 0).take 8) = start) := by
    show _ = _
    rw [List.drop_zero, hbody, List.append_assoc, List.take_append_of_le_length (by rw [leL_length]; omega), List.take_of_length_le (by rw [leL_length]; omega), leval_leL]; exact Nat.mod_eq_of_lt hst
  have V2 : Hid (leval ((body.drop (0 + 8)).take 8) = size) := by
    show _ = _
    rw [hbody, List.append_assoc, Nat.zero_add, List.drop_append_of_le_length (by rw [leL_length]; omega), List.drop_of_length_le (by rw [leL_length]; omega), List.nil_append, List.take_append_of_le_length (by rw [leL_length]; omega), List.take_of_length_le (by rw [leL_length]; omega), leval_leL]
    exact Nat.mod_eq_of_lt hsz
  have V3 : Hid (body.drop (0 + 8 + 8) = ins) := by
    show _ = _
    rw [hbody, List.append_assoc, ← List.append_assoc, List.drop_append_of_le_length (by simp [leL_length]), List.drop_of_length_le (by simp [leL_length]), List.nil_append]
  have hwl : IntKind.i64.wrap (L : Int) = (L : Int) := IntWalk.i64_in _ (by omega)
  have HWS : Hid (IntKind.u64.wrap (start : Int) = (start : Int)) := by show _ = _; simp [IntKind.wrap, IntKind.signed, IntKind.bits]; omega
  have c1 : w.cell? ⟨pb, 1, none⟩ = some (.pointer (some ⟨bb, 0, none⟩)) := blk_cell h 1
  have c7 : w.cell? ⟨pb, 7, none⟩ = some (.int .u32 (L : Int)) := blk_cell h 7
  have H := Lib.hid h
  have HfD := Lib.hid hf
  have Hc := Lib.hid hc
  have Hc9 := Lib.hid hc9
  have Hb := Lib.hid hb
  have Ht := Lib.hid ht
  have Hown := Lib.hid hown
  have Hbase := Lib.hid hbase
  have Hv := Lib.hid hv
  have Hev := Lib.hid hev
  have Hd1 := Lib.hid hd1
  have Hd2 := Lib.hid hd2
  have Hd3 := Lib.hid hd3
  have Hd4 := Lib.hid hd4
  have Hd5 := Lib.hid hd5
  have Hd6 := Lib.hid hd6
  have HT := Lib.hid htake
  have HL := Lib.hid hL
  clear h hf hc hc9 hb ht hown hbase hv hev hd1 hd2 hd3 hd4 hd5 hd6 hbody hD hL htake hst hsz
  go_enter Tryz.func56, Tryz.ntmps56
  go_wp2_with (go_at_call 51; refine (pOffset_any pb bb total _ mb cv _ L v D off rd _ H.out Hb.out Ht.out).mono ?_; rintro e w' ⟨rfl, kq, rfl⟩)
  have HFq : Hid (Fr [] w (w.drewN kq)) := (Fr.refl _ _).drewN _
  have q1 : (w.drewN kq).cell? ⟨pb, 1, none⟩ = some (.pointer (some ⟨bb, 0, none⟩)) := HFq.out.cell c1 (by simp)
  have q7 : (w.drewN kq).cell? ⟨pb, 7, none⟩ = some (.int .u32 (L : Int)) := HFq.out.cell c7 (by simp)
  generalize w.drewN kq = wq at *
  clear c1 c7
  go_region_held3 (fun w' => w'.cell? ⟨pb, 1, none⟩ = some (.pointer (some ⟨bb, 0, none⟩)) ∧ w'.cell? ⟨pb, 7, none⟩ = some (.int .u32 (L : Int)))
    (first | exact ⟨q1, q7⟩ | exact ⟨HF2'.out.cell q1 (by simpa using Hd1.out), HF2'.out.cell q7 (by simpa using Hd1.out)⟩)
    ((go_at_call 72; go_must (refine (BufNext_any bb v D off L rd _ (Hb.out.fr (HFq.out.drew) (by simp) (by simp)) hDl hDp).mono ?_); rw [HT.out]; rintro e w2 ⟨⟨a2, ca2, rfl, hs2, ho2⟩, hb2, hf2⟩; have HS2 := Lib.hid hs2; have HO2 := Lib.hid ho2; have HB2 := Lib.hid hb2; have HF2' : Hid (Fr [bb] wq w2) := (Fr.refl [bb] wq).drew.trans hf2 (fun i h _ => h); have HF2 : Hid (Fr [bb] w w2) := (HFq.out.mono (by simp)).trans HF2'.out (fun i h _ => h); clear hs2 ho2 hb2 hf2))
  clear q1 q7 hwl
  go_wp2_with (go_at_call 79; refine (NewReader_any a2 L ca2 _).mono ?_; rintro e w3 ⟨rfl, rfl⟩)
  have hg3 : Fr [] w2 (w2.alloc (.cells #[.slice a2 L ca2, .int .i64 0] 200 (0, 0))) := (Fr.refl _ _).alloc _
  have hv2 : ∀ g, (Value.slice a2 L ca2).ownBlock = some g → g < w2.heap.size := fun g hg => by have := (Hv.out g (HO2.out g hg)).1; have := HF2.out.size; omega
  have hb3 : RdrR (w2.alloc (.cells #[.slice a2 L ca2, .int .i64 0] 200 (0, 0))) w2.heap.size (.slice a2 L ca2) body 0 := RdrR_new HS2.out hv2 hcap
  have C3 : Hid (FI [pb, fb] w2 (w2.alloc (.cells #[.slice a2 L ca2, .int .i64 0] 200 (0, 0))) pb bb total (.slice ae ne ce) mb fb w2.heap.size cv L #[.int .u32 (L : Int), .pointer (some ⟨cb, 0, none⟩), .slice none 0 0, .int .u64 0, .int .u64 0, .nilIface] (.slice a2 L ca2) body 0) :=
    ⟨(H.out.fr HF2.out (by simpa using Hd1.out)).fr hg3 (by simp), hg3.get (HF2.out.get HfD.out (by simpa using Hd3.out.symm)) (by simp), hb3, hg3.mono (by simp), (by simp), (by simp), Hd2.out,
      (by have := lt_heap H.out; have := HF2.out.size; omega), (by have := lt_heap HfD.out; have := HF2.out.size; omega), (fun g hg => by have := Hv.out g (HO2.out g hg); exact ⟨this.2.2.2, this.2.1⟩), hv2, Nat.le_refl _⟩
  have K3 : Hid (w2.heap[cb]? = some (.cells cc 138 (0, 0))) := HF2.out.get Hc.out (by simpa using Hd5.out)
  generalize w2.alloc (.cells #[.slice a2 L ca2, .int .i64 0] 200 (0, 0)) = w3 at *
  clear hg3 hb3 hv2
  obtain ⟨rb, hrb⟩ : ∃ rb, w2.heap.size = rb := ⟨_, rfl⟩
  rw [hrb] at C3 ⊢
  clear hrb
  have KC : Hid (∀ w', Fr [pb, fb] w2 w' → w'.cell? ⟨cb, 9, none⟩ = some (.int .u8 0)) := fun w' f => by rw [blk_cell (f.get K3.out (by simpa using ⟨Hd4.out, Hd6.out⟩))]; exact Hc9.out
  have k9 : w3.cell? ⟨pb, 9, none⟩ = some (.int .u64 0) := blk_cell C3.out.pc 9
  have k6 : w3.cell? ⟨pb, 6, none⟩ = some (.pointer (some ⟨fb, 0, none⟩)) := blk_cell C3.out.pc 6
  have f1 : w3.cell? ⟨fb, 1, none⟩ = some (.pointer (some ⟨cb, 0, none⟩)) := blk_cell C3.out.fd 1
  have x9 := KC.out _ C3.out.fr
  go_wp2_with fail
  go_region_held3 (fun w' => w'.cell? ⟨pb, 9, none⟩ = some (.int .u64 0) ∧ w'.cell? ⟨pb, 6, none⟩ = some (.pointer (some ⟨fb, 0, none⟩)) ∧ w'.cell? ⟨fb, 1, none⟩ = some (.pointer (some ⟨cb, 0, none⟩)) ∧ w'.cell? ⟨cb, 9, none⟩ = some (.int .u8 0))
    (first | exact ⟨blk_cell C5.out.pc 9, blk_cell C5.out.pc 6, blk_cell C5.out.fd 1, KC.out _ C5.out.fr⟩ | exact ⟨blk_cell C4.out.pc 9, blk_cell C4.out.pc 6, blk_cell C4.out.fd 1, KC.out _ C4.out.fr⟩ | exact ⟨k9, k6, f1, x9⟩)
    (first | (have _t := C4; go_at_call 77; go_must (refine (readEncodedPtr_zero pb bb total _ mb cv _ L _ rb _ body 0 _ C4.out.pc C4.out.rd (by omega) (fun g hg => Nat.lt_of_lt_of_le (C4.out.v2 g hg) C4.out.fr.size)).mono ?_); rw [V1.out]; rintro e w5 ⟨rfl, hb5, hf5⟩; have C5 := Lib.hid (C4.out.call hb5 hf5); clear hb5 hf5)
           | (go_at_call 80; go_must (refine (addrSum_any _ rb _ body 0 _ (C3.out.idle (Fr.drew (Fr.refl [] w3))).rd).mono ?_); rintro e w4 ⟨⟨y, rfl⟩, hb4, hf4⟩; have C4 := Lib.hid ((C3.out.idle (Fr.drew (Fr.refl [] w3))).call hb4 hf4); clear hb4 hf4))
  clear k9 k6 f1 x9
  have k6 : w5.cell? ⟨pb, 6, none⟩ = some (.pointer (some ⟨fb, 0, none⟩)) := blk_cell C5.out.pc 6
  have k0 : w5.cell? ⟨pb, 0, none⟩ = some (.int .u64 0) := blk_cell C5.out.pc 0
  have f3 : w5.drew.cell? ⟨fb, 3, none⟩ = some (.int .u64 0) := blk_cell C5.out.fd 3
  have z3 : w5.drew.frozen? ⟨fb, 3, none⟩ = false := blk_free C5.out.fd 3
  have hws := HWS.out
  have KB : Hid (∀ n, (w5.setCell ⟨fb, 3, none⟩ n).drew.cell? ⟨pb, 6, none⟩ = some (.pointer (some ⟨fb, 0, none⟩)) ∧ (w5.setCell ⟨fb, 3, none⟩ n).drew.cell? ⟨pb, 0, none⟩ = some (.int .u64 0)) := fun n => ⟨blk_cell (C5.out.store 3 n).pc 6, blk_cell (C5.out.store 3 n).pc 0⟩
  go_wp2_with fail
  go_region_held3 (fun w' => w'.cell? ⟨pb, 6, none⟩ = some (.pointer (some ⟨fb, 0, none⟩)) ∧ w'.cell? ⟨pb, 0, none⟩ = some (.int .u64 0))
    (first | exact ⟨k6, k0⟩ | with_reducible exact KB.out _)
    (fail)
  have hC6 := (C5.out.store 3 (.int .u64 (start : Int))).idle (Fr.drew (Fr.refl [] _))
  generalize (w5.setCell ⟨fb, 3, none⟩ (.int .u64 (start : Int))).drew = w6 at *
  have C6 : Hid (FI [pb, fb] w2 w6 pb bb total (.slice ae ne ce) mb fb rb cv L #[.int .u32 (L : Int), .pointer (some ⟨cb, 0, none⟩), .slice none 0 0, .int .u64 (start : Int), .int .u64 0, .nilIface] (.slice a2 L ca2) body (0 + 8)) := hC6
  clear hC6 k6 k0 f3 z3 KB hws
  have k6 : w6.cell? ⟨pb, 6, none⟩ = some (.pointer (some ⟨fb, 0, none⟩)) := blk_cell C6.out.pc 6
  have f1 : w6.cell? ⟨fb, 1, none⟩ = some (.pointer (some ⟨cb, 0, none⟩)) := blk_cell C6.out.fd 1
  have x9 := KC.out _ C6.out.fr
  have hb15 : bits .and .u8 0 15 = 0 := by decide +kernel
  go_wp2_with fail
  clear f1 x9 hb15
  go_region_held3 (fun w' => w'.cell? ⟨pb, 6, none⟩ = some (.pointer (some ⟨fb, 0, none⟩)))
    (first | exact k6 | exact k7 | with_reducible exact KB.out _)
    ((go_at_call 77; go_must (refine (readEncodedPtr_zero pb bb total _ mb cv _ L _ rb _ body (0 + 8) _ (C6.out.idle (Fr.drew (Fr.refl [] w6))).pc (C6.out.idle (Fr.drew (Fr.refl [] w6))).rd (by omega) (fun g hg => Nat.lt_of_lt_of_le (C6.out.v2 g hg) C6.out.fr.size)).mono ?_); rw [V2.out]; rintro e u7 ⟨rfl, hb7, hf7⟩; have C7' := Lib.hid ((C6.out.idle (Fr.drew (Fr.refl [] w6))).call hb7 hf7); have k7 : u7.cell? ⟨pb, 6, none⟩ = some (.pointer (some ⟨fb, 0, none⟩)) := blk_cell C7'.out.pc 6; have s : u7.cell? ⟨fb, 4, none⟩ = some (.int .u64 0) := blk_cell C7'.out.fd 4; have z : u7.frozen? ⟨fb, 4, none⟩ = false := blk_free C7'.out.fd 4; have KB : Hid (∀ n, (u7.setCell ⟨fb, 4, none⟩ n).cell? ⟨pb, 6, none⟩ = some (.pointer (some ⟨fb, 0, none⟩))) := fun n => blk_cell (C7'.out.store 4 n).pc 6; clear hb7 hf7))
  have hC7 := C7'.out.store 4 (.int .u64 (size : Int))
  generalize u7.setCell ⟨fb, 4, none⟩ (.int .u64 (size : Int)) = w7 at *
  have C7 : Hid (FI [pb, fb] w2 w7 pb bb total (.slice ae ne ce) mb fb rb cv L #[.int .u32 (L : Int), .pointer (some ⟨cb, 0, none⟩), .slice none 0 0, .int .u64 (start : Int), .int .u64 (size : Int), .nilIface] (.slice a2 L ca2) body (0 + 8 + 8)) := hC7
  clear hC7 k6 k7 s z KB C7'
  have k3 : w7.cell? ⟨pb, 3, none⟩ = some (.slice ae ne ce) := blk_cell C7.out.pc 3
  have k6 : w7.cell? ⟨pb, 6, none⟩ = some (.pointer (some ⟨fb, 0, none⟩)) := blk_cell C7.out.pc 6
  have O7 : Hid (∀ o, (w7.alloc o).drew.ownsRow base 70 1 (.slice ae ne ce) ne ptrs) := fun o => own_fr (own_fr Hown.out HF2.out (fun g hg => by simpa using (Hev.out g hg).2.1)) ((C7.out.fr.alloc o).drew) (fun g hg => by have := Hev.out g hg; simpa using ⟨this.1, this.2.2.1⟩)
  have SZ : Hid (w.heap.size ≤ w7.heap.size) := Nat.le_trans HF2.out.size C7.out.fr.size
  have hrbn : Hid (∀ g, (Value.slice ae ne ce).ownBlock = some g → g < w2.heap.size) := fun g hg => by have := (Hown.out.lt g hg).2; have := HF2.out.size; omega
  have hna : Hid (∀ k ∈ (Value.slice ae ne ce).ownBlock.toList, k ≠ pb ∧ k ≠ fb ∧ k ≠ rb ∧ (Value.slice a2 L ca2).ownBlock ≠ some k) := fun k hk => by
    have hk' : (Value.slice ae ne ce).ownBlock = some k := by simpa using hk
    have := Hev.out k hk'
    exact ⟨this.1, this.2.2.1, (fun e => by have := hrbn.out k hk'; have := C7.out.nw; omega), fun e => this.2.2.2 (HO2.out k e)⟩
  have k3a : ∀ o, (w7.alloc o).drew.cell? ⟨pb, 3, none⟩ = some (.slice ae ne ce) := fun o => ((Fr.refl [] w7).alloc o).drew.cell k3 (by simp)
  go_wp2_with fail
  have hsz7 : Hid (pb < w7.heap.size ∧ fb < w7.heap.size ∧ rb < w7.heap.size) := ⟨lt_heap C7.out.pc, lt_heap C7.out.fd, lt_heap C7.out.rd.1⟩
  go_cut [] from 83 to 95 (fun wx => ∃ a8 c8, wx.ownsRow base 70 1 (.slice a8 (ne + 1) c8) (ne + 1) (ptrs ++ [.pointer (some ⟨fb, 0, none⟩)]) ∧ (∀ g, (Value.slice a8 (ne + 1) c8).ownBlock = some g → (Value.slice ae ne ce).ownBlock = some g ∨ w7.heap.size ≤ g) ∧
    FI ((Value.slice ae ne ce).ownBlock.toList ++ [pb, fb]) w2 wx pb bb total (.slice a8 (ne + 1) c8) mb fb rb cv L #[.int .u32 (L : Int), .pointer (some ⟨cb, 0, none⟩), .slice none 0 0, .int .u64 (start : Int), .int .u64 (size : Int), .nilIface] (.slice a2 L ca2) body (0 + 8 + 8))
  case first =>
    go_region_law ((refine step_app2 slicePF _ (by rfl) _ _ (by rfl) base _ ne ptrs (by rfl) (O7.out _) (some ⟨w7.heap.size, 0, none⟩) 1 1 [.pointer (some ⟨fb, 0, none⟩)] (by rfl) (by rfl) (fun h => by cases h) (news_blk (blk_new w7 _)) (by simp [Value.oneCell']) (by omega) (by decide) (by have := SZ.out; have := Hbase.out; simp; omega) ?_; intro a8 c8 w8 ho8 hf8 hg8; have HO8 := Lib.hid ho8; have HG8 := Lib.hid hg8; have P8 := Lib.hid (C7.out.app (((Fr.refl _ w7).alloc _).drew.trans hf8 (fun i h _ => h)) hna.out); have s : w8.cell? ⟨pb, 3, none⟩ = some (.slice ae ne ce) := blk_cell P8.out.pc 3; have z : w8.frozen? ⟨pb, 3, none⟩ = false := blk_free P8.out.pc 3; have KB : Hid (∀ n, (w8.setCell ⟨pb, 3, none⟩ n).cell? ⟨pb, 6, none⟩ = some (.pointer (some ⟨fb, 0, none⟩))) := fun n => blk_cell (P8.out.setEntries n).pc 6; clear ho8 hf8 hg8))
    all_goals
      go_wp2_with fail
      go_meet
      have hg' : ∀ g, (Value.slice a8 (ne + 1) c8).ownBlock = some g → (Value.slice ae ne ce).ownBlock = some g ∨ w7.heap.size ≤ g := fun g hg => (HG8.out g hg).imp id (fun h => by simp at h; omega)
      refine ⟨a8, c8, own_fr HO8.out ((Fr.refl [pb] w8).setCell (.inl (by simp)) _) (fun g hg => ?_), hg', P8.out.setEntries _⟩
      rcases hg' g hg with h | h
      · simpa using (Hev.out g h).1
      · have := lt_heap C7.out.pc; simp; omega
  case rest =>
    obtain ⟨a8, c8, ho8, hg8, hC8⟩ := hcut
    have HO8 := Lib.hid ho8
    have HG8 := Lib.hid hg8
    have C8 := Lib.hid hC8
    clear ho8 hg8 hC8 k3 k6 O7 hrbn k3a C7
    go_wp2_with (first | (go_at_call 71; refine (parsingEH_any pb bb total _ mb cv _ L _ C8.out.pc).mono ?_; rintro e w' ⟨rfl, rfl⟩) | (go_at_call 81; go_must (refine (RdrSeek_zero rb _ body (0 + 8 + 8) _ C8.out.rd).mono ?_); rintro e w9 ⟨rfl, hb9, hf9⟩; have C9 := Lib.hid (C8.out.call hb9 hf9); have F9 := Lib.hid hf9; clear hb9 hf9))
    have k6 : w9.cell? ⟨pb, 6, none⟩ = some (.pointer (some ⟨fb, 0, none⟩)) := blk_cell C9.out.pc 6
    obtain ⟨qa, qc, hqv, hq1, hq2, hq3, -⟩ := C9.out.rd.2.1.shape
    obtain ⟨gs, os, rfl, hqc⟩ := hq3 (by omega)
    simp only [Value.slice.injEq] at hqv
    obtain ⟨rfl, hLb, rfl⟩ := hqv
    have HLb := Lib.hid hLb
    have HQC := Lib.hid hqc
    unfold maxLen at hq2
    have hL16 : (16 : Int) ≤ (L : Int) := by omega
    have hc16 : (16 : Int) ≤ (ca2 : Int) := by omega
    have hLca : (L : Int) ≤ (ca2 : Int) := by omega
    clear hLb hqc hq3 hq1
    have f2 : w9.drew.cell? ⟨fb, 2, none⟩ = some (.slice none 0 0) := blk_cell C9.out.fd 2
    have z2 : w9.drew.frozen? ⟨fb, 2, none⟩ = false := blk_free C9.out.fd 2
    have KB : Hid (∀ n, (w9.setCell ⟨fb, 2, none⟩ n).drew.cell? ⟨pb, 6, none⟩ = some (.pointer (some ⟨fb, 0, none⟩))) := fun n => blk_cell (C9.out.store 2 n).pc 6
    go_wp2_with fail
    by_cases hcc : ca2 = 16
    · subst hcc
      have hL0 : L = 16 := by omega
      have HL0 := Lib.hid hL0
      clear hL0
      go_region_held3 (fun w' => w'.cell? ⟨pb, 6, none⟩ = some (.pointer (some ⟨fb, 0, none⟩)))
        (first | exact k6 | with_reducible exact KB.out _)
        (fail)
      have hF10 : Fr [rb, fb, pb] wc (w9.setCell ⟨fb, 2, none⟩ (.slice (some ⟨gs, os, none⟩) (L - 16) 0)).drew := ((F9.out.mono (by simp)).setCell (.inl (by simp)) _).drew
      have hC10 := (C9.out.store 2 (.slice (some ⟨gs, os, none⟩) (L - 16) 0)).idle (Fr.drew (Fr.refl [] _))
      generalize (w9.setCell ⟨fb, 2, none⟩ (.slice (some ⟨gs, os, none⟩) (L - 16) 0)).drew = w10 at *
      have C10 : Hid (FI ((Value.slice ae ne ce).ownBlock.toList ++ [pb, fb]) w2 w10 pb bb total (.slice a8 (ne + 1) c8) mb fb rb cv L #[.int .u32 (L : Int), .pointer (some ⟨cb, 0, none⟩), (.slice (some ⟨gs, os, none⟩) (L - 16) 0), .int .u64 (start : Int), .int .u64 (size : Int), .nilIface] (.slice (some ⟨gs, os, none⟩) L 16) body (0 + 8 + 8)) := hC10
      have F10 := Lib.hid hF10
      clear hC10 hF10 f2 z2 KB k6
      have s7 : w10.cell? ⟨pb, 7, none⟩ = some (.int .u32 (L : Int)) := blk_cell C10.out.pc 7
      have z7 : w10.frozen? ⟨pb, 7, none⟩ = false := blk_free C10.out.pc 7
      go_wp2_with fail
      go_ret
      have C11 := C10.out.setLen 0
      have hbse : ∀ g, (Value.slice a8 (ne + 1) c8).ownBlock = some g → g ≠ fb ∧ g ≠ pb ∧ g ≠ rb := fun g hg => by
        rcases HG8.out g hg with h | h
        · have h2 := hna.out g (by simpa using h); exact ⟨h2.2.1, h2.1, h2.2.2.1⟩
        · have := hsz7.out; omega
      refine ⟨rfl, a8, c8, C11.pc, ?_, ⟨_, _, _, C11.fd, ?_, fun g hg => HO2.out g hg⟩, ?_, ?_, fun g hg => (HG8.out g hg).imp id (fun h => Nat.le_trans SZ.out h)⟩
      · exact own_fr HO8.out (F10.out.setCell (p := ⟨pb, 7, none⟩) (.inl (by simp)) _) (fun g hg => by have := hbse g hg; simp; exact ⟨this.2.2, this.1, this.2.1⟩)
      · rw [show ins = [] from List.eq_nil_of_length_eq_zero (by have := HLb.out; omega)]; exact sl_mk (by have := HL0.out; simp; omega) (by have := HL0.out; omega) (by unfold maxLen; omega) (fun i v hi => by simp at hi)
      · have hv3 : ∀ g, v.ownBlock = some g → g ∉ (Value.slice ae ne ce).ownBlock.toList ++ [pb, fb] := fun g hg hm => by
          rcases List.mem_append.1 hm with h | h
          · exact (Hev.out g (by simpa using h)).2.2.2 hg
          · have := Hv.out g hg; simp at h; rcases h with rfl | rfl
            · exact this.2.1 rfl
            · exact this.2.2.2 rfl
        exact ⟨_, HB2.out.fr C11.fr (fun hm => by
          rcases List.mem_append.1 hm with h | h
          · exact (Hev.out _ (by simpa using h)).2.1 rfl
          · simp at h; rcases h with h | h
            · exact Hd1.out h.symm
            · exact Hd3.out h) hv3⟩
      · refine (HF2.out.mono (bs := pb :: bb :: fb :: (Value.slice ae ne ce).ownBlock.toList) (by simp)).trans C11.fr (fun i hi _ => ?_)
        rcases List.mem_append.1 hi with h | h
        · exact List.mem_cons_of_mem _ (List.mem_cons_of_mem _ (List.mem_cons_of_mem _ h))
        · simp at h; rcases h with rfl | rfl <;> simp
    · go_region_held3 (fun w' => w'.cell? ⟨pb, 6, none⟩ = some (.pointer (some ⟨fb, 0, none⟩)))
        (first | exact k6 | with_reducible exact KB.out _)
        (fail)
      have hF10 : Fr [rb, fb, pb] wc (w9.setCell ⟨fb, 2, none⟩ (.slice (some ⟨gs, os + 16, none⟩) (L - 16) (ca2 - 16))).drew := ((F9.out.mono (by simp)).setCell (.inl (by simp)) _).drew
      have hC10 := (C9.out.store 2 (.slice (some ⟨gs, os + 16, none⟩) (L - 16) (ca2 - 16))).idle (Fr.drew (Fr.refl [] _))
      generalize (w9.setCell ⟨fb, 2, none⟩ (.slice (some ⟨gs, os + 16, none⟩) (L - 16) (ca2 - 16))).drew = w10 at *
      have C10 : Hid (FI ((Value.slice ae ne ce).ownBlock.toList ++ [pb, fb]) w2 w10 pb bb total (.slice a8 (ne + 1) c8) mb fb rb cv L #[.int .u32 (L : Int), .pointer (some ⟨cb, 0, none⟩), (.slice (some ⟨gs, os + 16, none⟩) (L - 16) (ca2 - 16)), .int .u64 (start : Int), .int .u64 (size : Int), .nilIface] (.slice (some ⟨gs, os, none⟩) L ca2) body (0 + 8 + 8)) := hC10
      have F10 := Lib.hid hF10
      clear hC10 hF10 f2 z2 KB k6
      have s7 : w10.cell? ⟨pb, 7, none⟩ = some (.int .u32 (L : Int)) := blk_cell C10.out.pc 7
      have z7 : w10.frozen? ⟨pb, 7, none⟩ = false := blk_free C10.out.pc 7
      go_wp2_with fail
      go_ret
      have C11 := C10.out.setLen 0
      have hbse : ∀ g, (Value.slice a8 (ne + 1) c8).ownBlock = some g → g ≠ fb ∧ g ≠ pb ∧ g ≠ rb := fun g hg => by
        rcases HG8.out g hg with h | h
        · have h2 := hna.out g (by simpa using h); exact ⟨h2.2.1, h2.1, h2.2.2.1⟩
        · have := hsz7.out; omega
      refine ⟨rfl, a8, c8, C11.pc, ?_, ⟨_, _, _, C11.fd, ?_, fun g hg => HO2.out g hg⟩, ?_, ?_, fun g hg => (HG8.out g hg).imp id (fun h => Nat.le_trans SZ.out h)⟩
      · exact own_fr HO8.out (F10.out.setCell (p := ⟨pb, 7, none⟩) (.inl (by simp)) _) (fun g hg => by have := hbse g hg; simp; exact ⟨this.2.2, this.1, this.2.1⟩)
      · have hq4 : Cells (w10.setCell ⟨pb, 7, none⟩ (.int .u32 ((0 : Nat) : Int))) gs (os + 16) (vbs ins) := by
          have := (C11.rd.2.1)
          obtain ⟨g', o', c', hv', h1', h2', h3'⟩ := sl_some this (by have := HLb.out; simp; omega)
          simp only [Value.slice.injEq, Option.some.injEq, Addr.mk.injEq] at hv'
          obtain ⟨⟨rfl, rfl, -⟩, -, -⟩ := hv'
          have := h3'.drop 16
          rw [← V3.out]; simpa [List.map_drop] using this
        exact sl_mk (by have := HLb.out; simp; omega) (by omega) (by unfold maxLen; omega) hq4
      · have hv3 : ∀ g, v.ownBlock = some g → g ∉ (Value.slice ae ne ce).ownBlock.toList ++ [pb, fb] := fun g hg hm => by
          rcases List.mem_append.1 hm with h | h
          · exact (Hev.out g (by simpa using h)).2.2.2 hg
          · have := Hv.out g hg; simp at h; rcases h with rfl | rfl
            · exact this.2.1 rfl
            · exact this.2.2.2 rfl
        exact ⟨_, HB2.out.fr C11.fr (fun hm => by
          rcases List.mem_append.1 hm with h | h
          · exact (Hev.out _ (by simpa using h)).2.1 rfl
          · simp at h; rcases h with h | h
            · exact Hd1.out h.symm
            · exact Hd3.out h) hv3⟩
      · refine (HF2.out.mono (bs := pb :: bb :: fb :: (Value.slice ae ne ce).ownBlock.toList) (by simp)).trans C11.fr (fun i hi _ => ?_)
        rcases List.mem_append.1 hi with h | h
        · exact List.mem_cons_of_mem _ (List.mem_cons_of_mem _ (List.mem_cons_of_mem _ h))
        · simp at h; rcases h with rfl | rfl <;> simp
end Go.Proofs.YtahohmdfllgedaaGreat

namespace Go.Proofs.YtahohmdfllgedaaGreat
open Go.RowKit

inductive Item where
  | cie (c : LCommon)
  | fde (n : Nat) (c : LCommon) (f : LFrame)

def itemL : Item → List UInt8
  | .cie c => padL (cieL c)
  | .fde n _ f => padL (fdeL n f)
def itemsL (is : List Item) : List UInt8 := is.flatMap itemL
def itemsFrom : Nat → List LCommon → List Item
  | _, [] => []
  | n, c :: cs => (.cie c :: c.frames.map (.fde n c)) ++ itemsFrom (n + (entL n c).length) cs
/-- Where entry k begins. -/
def offs (is : List Item) (k : Nat) : Nat := (itemsL (is.take k)).length
def fdes (is : List Item) : List (LCommon × LFrame) := is.filterMap fun | .fde _ c f => some (c, f) | _ => none

theorem itemsL_app (a b : List Item) : itemsL (a ++ b) = itemsL a ++ itemsL b := List.flatMap_append
theorem ent_items (n : Nat) (c : LCommon) : itemsL (.cie c :: c.frames.map (.fde n c)) = entL n c := by
  simp [itemsL, itemL, entL, List.flatMap_map]
theorem items_sec (l : List LCommon) : ∀ n, itemsL (itemsFrom n l) = secFrom n l := by
  induction l with
  | nil => intro n; rfl
  | cons c cs ih => intro n; rw [itemsFrom, itemsL_app, ent_items, ih, secFrom]
theorem fdes_items (l : List LCommon) : ∀ n, fdes (itemsFrom n l) = l.flatMap fun c => c.frames.map fun f => (c, f) := by
  induction l with
  | nil => intro n; rfl
  | cons c cs ih =>
    intro n
    have e : fdes (.cie c :: c.frames.map (.fde n c)) = c.frames.map fun f => (c, f) := by
      simp only [fdes, List.filterMap_cons, List.filterMap_map]
      rw [← List.filterMap_eq_map]; rfl
    rw [itemsFrom, fdes, List.filterMap_append, List.flatMap_cons, ← ih]
    exact congrArg (· ++ _) e
theorem allFr_fdes (l : List LCommon) (n : Nat) : (fdes (itemsFrom n l)).map (·.2) = allFr l := by
  rw [fdes_items, List.map_flatMap]; simp [allFr, List.map_map, Function.comp_def]

/-- A frame's entry points back to its common entry. -/
theorem items_back (l : List LCommon) : ∀ n k m c f, (itemsFrom n l)[k]? = some (.fde m c f) → ∃ j, j < k ∧ (itemsFrom n l)[j]? = some (.cie c) ∧ m = n + offs (itemsFrom n l) j := by
  induction l with
  | nil => intro n k m c f h; simp [itemsFrom] at h
  | cons c0 cs ih =>
    intro n k m c f h
    have hlen : (Item.cie c0 :: c0.frames.map (Item.fde n c0)).length = c0.frames.length + 1 := by simp
    rw [itemsFrom] at h ⊢
    by_cases hk : k < c0.frames.length + 1
    · rw [List.getElem?_append_left (by omega)] at h
      cases k with
      | zero => simp at h
      | succ k =>
        simp at h
        obtain ⟨f', hf', rfl, rfl, rfl⟩ := h
        exact ⟨0, by omega, by simp, by simp [offs, itemsL]⟩
    · rw [List.getElem?_append_right (by omega), hlen] at h
      obtain ⟨j, hj, hc, hm⟩ := ih _ _ _ _ _ h
      refine ⟨j + (c0.frames.length + 1), by omega, ?_, ?_⟩
      · rw [List.getElem?_append_right (by omega), hlen, Nat.add_sub_cancel]; exact hc
      · have e : List.take (j + (c0.frames.length + 1)) (Item.cie c0 :: c0.frames.map (Item.fde n c0) ++ itemsFrom (n + (entL n c0).length) cs) = (Item.cie c0 :: c0.frames.map (Item.fde n c0)) ++ List.take j (itemsFrom (n + (entL n c0).length) cs) := by
          rw [List.take_append, hlen, Nat.add_sub_cancel, List.take_of_length_le (l := Item.cie c0 :: c0.frames.map (Item.fde n c0)) (by rw [hlen]; omega)]
        rw [hm, offs, offs, e, itemsL_app, ent_items, List.length_append]; omega

theorem items_mem_cie {l : List LCommon} : ∀ {n : Nat} {c : LCommon}, Item.cie c ∈ itemsFrom n l → c ∈ l := by
  induction l with
  | nil => intro n c h; simp [itemsFrom] at h
  | cons c0 cs ih =>
    intro n c h
    rw [itemsFrom] at h
    rcases List.mem_append.1 h with h | h
    · simp at h; simp [h]
    · exact List.mem_cons_of_mem _ (ih h)
theorem items_mem_fde {l : List LCommon} : ∀ {n m : Nat} {c : LCommon} {f : LFrame}, Item.fde m c f ∈ itemsFrom n l → c ∈ l ∧ f ∈ c.frames := by
  induction l with
  | nil => intro n m c f h; simp [itemsFrom] at h
  | cons c0 cs ih =>
    intro n m c f h
    rw [itemsFrom] at h
    rcases List.mem_append.1 h with h | h
    · simp at h; obtain ⟨h1, h2, -, rfl, rfl⟩ := h; exact ⟨by simp, h2⟩
    · have := ih h; exact ⟨List.mem_cons_of_mem _ this.1, this.2⟩

theorem offs_succ (is : List Item) (k : Nat) (i : Item) (h : is[k]? = some i) : offs is (k + 1) = offs is k + (itemL i).length := by
  obtain ⟨hk, he⟩ := List.getElem?_eq_some_iff.1 h
  rw [offs, offs, List.take_succ_eq_append_getElem hk, itemsL_app, List.length_append, he]; simp [itemsL]
theorem drop_item (is : List Item) (k : Nat) (i : Item) (h : is[k]? = some i) : (itemsL is).drop (offs is k) = itemL i ++ itemsL (is.drop (k + 1)) := by
  obtain ⟨hk, he⟩ := List.getElem?_eq_some_iff.1 h
  have e : is = is.take k ++ i :: is.drop (k + 1) := by rw [← he, ← List.drop_eq_getElem_cons hk, List.take_append_drop]
  conv => lhs; rw [e, itemsL_app, List.drop_append_of_le_length (by rw [offs, ← e]; exact Nat.le_refl _)]
  rw [List.drop_of_length_le (by rw [offs, ← e]; exact Nat.le_refl _), List.nil_append]; rfl
theorem offs_mono (is : List Item) {j k : Nat} (h : j ≤ k) : offs is j ≤ offs is k := by
  obtain ⟨d, rfl⟩ := Nat.exists_eq_add_of_le h
  rw [offs, offs, List.take_add, itemsL_app, List.length_append]; omega
theorem item_pos (i : Item) : 0 < (itemL i).length := by cases i <;> simp [itemL, padL, leL_length] <;> omega
theorem offs_lt (is : List Item) {j k : Nat} (h : j < k) (hk : k ≤ is.length) : offs is j < offs is k := by
  have h1 := offs_succ is j is[j] (List.getElem?_eq_getElem (by omega))
  have h2 := item_pos is[j]
  have h3 := offs_mono is (show j + 1 ≤ k by omega)
  omega
theorem offs_all (is : List Item) : offs is is.length = (itemsL is).length := by rw [offs, List.take_length]
theorem fdes_take_cie (is : List Item) (k : Nat) (c : LCommon) (h : is[k]? = some (.cie c)) : fdes (is.take (k + 1)) = fdes (is.take k) := by
  obtain ⟨hk, he⟩ := List.getElem?_eq_some_iff.1 h
  rw [fdes, List.take_succ_eq_append_getElem hk, List.filterMap_append, he]; simp [fdes]
theorem fdes_take_fde (is : List Item) (k : Nat) (n : Nat) (c : LCommon) (f : LFrame) (h : is[k]? = some (.fde n c f)) : fdes (is.take (k + 1)) = fdes (is.take k) ++ [(c, f)] := by
  obtain ⟨hk, he⟩ := List.getElem?_eq_some_iff.1 h
  rw [fdes, List.take_succ_eq_append_getElem hk, List.filterMap_append, he]; simp [fdes]

/-- The fields of an entry's bytes. -/
theorem cie_bytes (c : LCommon) : ∃ body z, padL (cieL c) = leL (body.length + 4) 4 ++ leL 4294967295 4 ++ body ∧
    body = [UInt8.ofNat c.version.toNat, 0] ++ uleb c.code ++ sleb c.offset ++ uleb c.ret.toNat ++ (callsL c.calls ++ List.replicate z 0) := by
  refine ⟨_, padK (cieL c).length, ?_, rfl⟩
  have e : (cieL c).length + padK (cieL c).length = ([UInt8.ofNat c.version.toNat, 0] ++ uleb c.code ++ sleb c.offset ++ uleb c.ret.toNat ++ (callsL c.calls ++ List.replicate (padK (cieL c).length) 0)).length + 4 := by
    simp only [cieL, List.length_append, leL_length, List.length_replicate, List.length_cons, List.length_nil]; omega
  rw [padL, e]
  simp only [cieL, List.append_assoc]
theorem fde_bytes (n : Nat) (f : LFrame) : ∃ body z, padL (fdeL n f) = leL (body.length + 4) 4 ++ leL n 4 ++ body ∧ body = leL f.start 8 ++ leL f.size 8 ++ (callsL f.calls ++ List.replicate z 0) := by
  refine ⟨_, padK (fdeL n f).length, ?_, rfl⟩
  have e : (fdeL n f).length + padK (fdeL n f).length = (leL f.start 8 ++ leL f.size 8 ++ (callsL f.calls ++ List.replicate (padK (fdeL n f).length) 0)).length + 4 := by
    simp only [fdeL, List.length_append, leL_length, List.length_replicate]; omega
  rw [padL, e]
  simp only [fdeL, List.append_assoc]
end Go.Proofs.YtahohmdfllgedaaGreat

namespace Go.Proofs.YtahohmdfllgedaaGreat
open Go.RowKit

abbrev ptrV (b : Nat) : Value := .pointer (some ⟨b, 0, none⟩)
def CieAt (w : World) (v : Value) (cb : Nat) (c : LCommon) : Prop :=
  ∃ L N a n k z, w.heap[cb]? = some (.cells #[.int .u32 L, .int .u32 N, vb (UInt8.ofNat c.version.toNat), .string ⟨#[]⟩, .int .u64 (c.code : Int), .int .i64 c.offset, .int .u64 ((c.ret.toNat : Nat) : Int), .slice a n k, .int .u64 0, .int .u8 0] 138 (0, 0)) ∧
    Sl w (.slice a n k) (vbs (callsL c.calls ++ List.replicate z 0)) ∧ z < 1073741824 ∧ ∀ g, (Value.slice a n k).ownBlock = some g → v.ownBlock = some g
def FdeAt (w : World) (v : Value) (fb : Nat) (ord : Value) (c : LCommon) (f : LFrame) : Prop :=
  ∃ L cb a n k z, w.heap[fb]? = some (.cells #[.int .u32 L, ptrV cb, .slice a n k, .int .u64 (f.start : Int), .int .u64 (f.size : Int), ord] 114 (0, 0)) ∧
    Sl w (.slice a n k) (vbs (callsL f.calls ++ List.replicate z 0)) ∧ (z < 1073741824 ∧ ∀ g, (Value.slice a n k).ownBlock = some g → v.ownBlock = some g) ∧ CieAt w v cb c

theorem CieAt.fr {w w' : World} {v : Value} {cb : Nat} {c : LCommon} {bs : List Nat} (h : CieAt w v cb c) (f : Fr bs w w') (hn : cb ∉ bs) (hv : ∀ g, v.ownBlock = some g → g ∉ bs) : CieAt w' v cb c := by
  obtain ⟨L, N, a, n, k, z, h1, h2, h3⟩ := h
  exact ⟨L, N, a, n, k, z, f.get h1 hn, h2.fr f (fun g hg => hv g (h3.2 g hg)), h3⟩
theorem CieAt.blk {w : World} {v : Value} {cb : Nat} {c : LCommon} (h : CieAt w v cb c) : ∃ cs, w.heap[cb]? = some (.cells cs 138 (0, 0)) := by
  obtain ⟨L, N, a, n, k, z, h1, _⟩ := h; exact ⟨_, h1⟩
theorem FdeAt.blk {w : World} {v : Value} {fb : Nat} {o : Value} {c : LCommon} {f : LFrame} (h : FdeAt w v fb o c f) : ∃ cs, w.heap[fb]? = some (.cells cs 114 (0, 0)) := by
  obtain ⟨L, cb, a, n, k, z, h1, _⟩ := h; exact ⟨_, h1⟩
theorem FdeAt.fr {w w' : World} {v : Value} {fb : Nat} {o : Value} {c : LCommon} {f : LFrame} {bs : List Nat} (h : FdeAt w v fb o c f) (fr : Fr bs w w') (hn : ∀ k cs t, w.heap[k]? = some (.cells cs t (0, 0)) → (t = 138 ∨ k = fb) → k ∉ bs) (hv : ∀ g, v.ownBlock = some g → g ∉ bs) : FdeAt w' v fb o c f := by
  obtain ⟨L, cb, a, n, k, z, h1, h2, h3, h4⟩ := h
  obtain ⟨cs, hcs⟩ := h4.blk
  exact ⟨L, cb, a, n, k, z, fr.get h1 (hn _ _ _ h1 (.inr rfl)), h2.fr fr (fun g hg => hv g (h3.2 g hg)), h3, h4.fr fr (hn _ _ _ hcs (.inl rfl)) hv⟩

theorem blk_ne {w : World} {a b : Nat} {c1 c2 : Array Value} {t1 t2 : TypeId} {z1 z2 : Nat × Nat} (h1 : w.heap[a]? = some (.cells c1 t1 z1)) (h2 : w.heap[b]? = some (.cells c2 t2 z2)) (ht : t1 ≠ t2) : a ≠ b := by
  rintro rfl; rw [h1] at h2; simp at h2; exact ht h2.2.1
theorem map_ne {w : World} {a b : Nat} {c1 : Array Value} {t1 : TypeId} {z1 : Nat × Nat} {K : IntKind} {f : Int → Option Value} (h1 : w.heap[a]? = some (.cells c1 t1 z1)) (h2 : MapIs w b K f) : a ≠ b := by
  obtain ⟨es, c, h2, _⟩ := h2
  rintro rfl; rw [h1] at h2; simp at h2
theorem own_blk {w : World} {base e : Nat} {v : Value} {n : Nat} {vs : List Value} (h : w.ownsRow base e 1 v n vs) {g : Nat} (hg : v.ownBlock = some g) : ∃ cur, w.heap[g]? = some (.cells cur e (0, 0)) := by
  rcases h.2 with ⟨rfl, -⟩ | ⟨g', cap, cur, rfl, -, hh, -⟩
  · cases hg
  · simp [Value.ownBlock] at hg; subst hg; exact ⟨cur, hh⟩

/-- k entries have been read. -/
structure PA (w0 w : World) (pb bb mb : Nat) (v : Value) (D : List UInt8) (is : List Item) (k : Nat) (cv fv : Value) (ae : Option Addr) (ce : Nat) (ptrs : List Nat) (f : Int → Option Value) (rd : Bool) : Prop where
  pc : PC w pb bb D.length (.slice ae ptrs.length ce) mb cv fv 0
  bf : BufR w bb v D (offs is k) rd
  mp : MapIs w mb .i64 f
  own : w.ownsRow w0.heap.size 70 1 (.slice ae ptrs.length ce) ptrs.length (ptrs.map ptrV)
  fr : Fr [] w0 w
  vl : ∀ g, v.ownBlock = some g → g < w0.heap.size
  gp : w0.heap.size ≤ pb
  gb : w0.heap.size ≤ bb
  gm : w0.heap.size ≤ mb
  cies : ∀ (j : Nat) (c : LCommon), j < k → is[j]? = some (.cie c) → ∃ cb, f (offs is j : Int) = some (ptrV cb) ∧ w0.heap.size ≤ cb ∧ CieAt w v cb c
  fl : ptrs.length = (fdes (is.take k)).length
  fd : ∀ (i fb : Nat) (c : LCommon) (x : LFrame), ptrs[i]? = some fb → (fdes (is.take k))[i]? = some (c, x) → w0.heap.size ≤ fb ∧ FdeAt w v fb .nilIface c x
  nd : ptrs.Nodup

section
variable {w0 w w' : World} {pb bb mb : Nat} {v : Value} {D : List UInt8} {is : List Item} {k : Nat} {cv fv : Value} {ae : Option Addr} {ce : Nat} {ptrs : List Nat} {f : Int → Option Value} {rd : Bool}
theorem PA.d1 (h : PA w0 w pb bb mb v D is k cv fv ae ce ptrs f rd) : pb ≠ bb := blk_ne h.pc h.bf.1 (by decide)
theorem PA.d2 (h : PA w0 w pb bb mb v D is k cv fv ae ce ptrs f rd) : pb ≠ mb := map_ne h.pc h.mp
theorem PA.d3 (h : PA w0 w pb bb mb v D is k cv fv ae ce ptrs f rd) : bb ≠ mb := map_ne h.bf.1 h.mp
theorem PA.vn (h : PA w0 w pb bb mb v D is k cv fv ae ce ptrs f rd) : ∀ g, v.ownBlock = some g → g < w.heap.size ∧ g ≠ pb ∧ g ≠ mb := fun g hg => by
  have := h.vl g hg; have := h.fr.size; have := h.gp; have := h.gm; omega

/-- A common entry's head has been read. -/
structure PB (w0 w1 w : World) (pb bb mb : Nat) (v : Value) (D : List UInt8) (is : List Item) (k : Nat) (cv fv : Value) (ae : Option Addr) (ce : Nat) (ptrs : List Nat) (f : Int → Option Value) (rd rd' : Bool) (cb L : Nat) (body : List UInt8) : Prop where
  a : PA w0 w1 pb bb mb v D is k cv fv ae ce ptrs f rd
  pc : PC w pb bb D.length (.slice ae ptrs.length ce) mb (ptrV cb) fv L
  ci : w.heap[cb]? = some (.cells (cieNew L) 138 (0, 0))
  bf : BufR w bb v D (offs is k + 8) rd'
  mp : MapIs w mb .i64 (upd f (offs is k : Int) (ptrV cb))
  fr : Fr [pb, bb, mb] w1 w
  ge : w1.heap.size ≤ cb
  hb : L = body.length
  hD : D.drop (offs is k + 8) = body ++ itemsL (is.drop (k + 1))

theorem drop_head {D x y body rest : List UInt8} {o : Nat} (h : D.drop o = leL (body.length + 4) 4 ++ y ++ body ++ rest) (hy : y.length = 4) : D.drop (o + 8) = body ++ rest := by
  rw [← List.drop_drop, h, List.append_assoc, List.drop_append_of_le_length (by simp [leL_length, hy]), List.drop_of_length_le (by simp [leL_length, hy]), List.nil_append]

theorem stepA_cie (h : PA w0 w pb bb mb v D is k cv fv ae ce ptrs f rd) (hD : D = itemsL is) (hD2 : D.length < 1073741824) (c : LCommon) (hi : is[k]? = some (.cie c)) :
    Calls Tryz.prog 40 #[ptrV pb] w fun e w' => e = .returned (.func (.func 54) #[] #[]) ∧
      ∃ cb rd' body z, body = [UInt8.ofNat c.version.toNat, 0] ++ uleb c.code ++ sleb c.offset ++ uleb c.ret.toNat ++ (callsL c.calls ++ List.replicate z 0) ∧
        PB w0 w w' pb bb mb v D is k cv fv ae ce ptrs f rd rd' cb body.length body := by
  obtain ⟨body, z, hb1, hb2⟩ := cie_bytes c
  have hdrop := drop_item is k _ hi
  rw [← hD, itemL, hb1] at hdrop
  have hlen := congrArg List.length hdrop
  simp only [List.length_drop, List.length_append, leL_length] at hlen
  refine (parselength_cie pb bb D.length _ mb cv fv 0 v D (offs is k) rd f w h.pc h.bf rfl h.mp h.vn h.d1 h.d2 h.d3 body.length (body ++ itemsL (is.drop (k + 1))) (by rw [hdrop]; simp only [List.append_assoc]) (by omega)).mono ?_
  rintro e w' ⟨rfl, cb, hge, hpc, hci, ⟨rd', hbf⟩, hmp, hfr⟩
  exact ⟨rfl, cb, rd', body, z, hb2, h, hpc, hci, hbf, hmp, hfr, hge, rfl, drop_head (x := []) hdrop (leL_length 4 _)⟩

/-- A frame's head has been read. -/
structure PF (w0 w1 w : World) (pb bb mb : Nat) (v : Value) (D : List UInt8) (is : List Item) (k : Nat) (cv fv : Value) (ae : Option Addr) (ce : Nat) (ptrs : List Nat) (f : Int → Option Value) (rd rd' : Bool) (fb cb L : Nat) (body : List UInt8) : Prop where
  a : PA w0 w1 pb bb mb v D is k cv fv ae ce ptrs f rd
  pc : PC w pb bb D.length (.slice ae ptrs.length ce) mb cv (ptrV fb) L
  fd : w.heap[fb]? = some (.cells (fdeNew L cb) 114 (0, 0))
  bf : BufR w bb v D (offs is k + 8) rd'
  fr : Fr [pb, bb] w1 w
  ge : w1.heap.size ≤ fb
  hb : L = body.length
  hD : D.drop (offs is k + 8) = body ++ itemsL (is.drop (k + 1))

theorem stepA_fde (h : PA w0 w pb bb mb v D is k cv fv ae ce ptrs f rd) (hD : D = itemsL is) (hD2 : D.length < 1073741824) (n : Nat) (c : LCommon) (x : LFrame) (hi : is[k]? = some (.fde n c x)) (j : Nat) (hj : j < k) (hjc : is[j]? = some (.cie c)) (hn : n = offs is j) :
    Calls Tryz.prog 40 #[ptrV pb] w fun e w' => e = .returned (.func (.func 56) #[] #[]) ∧
      ∃ fb cb rd' body z, body = leL x.start 8 ++ leL x.size 8 ++ (callsL x.calls ++ List.replicate z 0) ∧ w0.heap.size ≤ cb ∧ CieAt w v cb c ∧
        PF w0 w w' pb bb mb v D is k cv fv ae ce ptrs f rd rd' fb cb body.length body := by
  obtain ⟨body, z, hb1, hb2⟩ := fde_bytes n x
  have hdrop := drop_item is k _ hi
  rw [← hD, itemL, hb1] at hdrop
  have hlen := congrArg List.length hdrop
  simp only [List.length_drop, List.length_append, leL_length] at hlen
  obtain ⟨cb, hcb, hcg, hca⟩ := h.cies j c hj hjc
  have hnl : n < 1073741824 := by
    have hk : k < is.length := (List.getElem?_eq_some_iff.1 hi).1
    have := offs_mono is (show j ≤ is.length by omega)
    rw [offs_all, ← hD] at this; omega
  refine (parselength_fde pb bb D.length _ mb cv fv 0 v D (offs is k) rd f w h.pc h.bf rfl h.mp h.vn h.d1 h.d2 h.d3 body.length n cb (body ++ itemsL (is.drop (k + 1))) (by rw [hdrop]; simp only [List.append_assoc]) (by omega) hnl (by rw [hn]; exact hcb)).mono ?_
  rintro e w' ⟨rfl, fb, hge, hpc, hfd, ⟨rd', hbf⟩, hfr⟩
  exact ⟨rfl, fb, cb, rd', body, z, hb2, hcg, hca, h, hpc, hfd, hbf, hfr, hge, rfl, drop_head (x := []) hdrop (leL_length 4 _)⟩

theorem stepB {w1 : World} {rd' : Bool} {cb L : Nat} {body : List UInt8} (h : PB w0 w1 w pb bb mb v D is k cv fv ae ce ptrs f rd rd' cb L body) (hD2 : D.length < 1073741824) (hDi : D = itemsL is) (c : LCommon) (hi : is[k]? = some (.cie c)) (hr : rcB c = true) (z : Nat)
    (hbody : body = [UInt8.ofNat c.version.toNat, 0] ++ uleb c.code ++ sleb c.offset ++ uleb c.ret.toNat ++ (callsL c.calls ++ List.replicate z 0)) :
    Calls Tryz.prog 54 #[ptrV pb] w fun e w' => e = .returned (.func (.func 40) #[] #[]) ∧
      ∃ rd'', PA w0 w' pb bb mb v D is (k + 1) (ptrV cb) fv ae ce ptrs (upd f (offs is k : Int) (ptrV cb)) rd'' := by
  obtain ⟨q1, q2, q3, q4, q5, q6, q7, q8, q9, q10, q11⟩ := rc_facts hr
  have hdrop := drop_item is k _ hi
  have hlen := congrArg List.length hdrop
  rw [← hDi] at hlen
  have hle := congrArg List.length h.hD
  simp only [List.length_drop, List.length_append] at hle hlen
  have hpcb : pb ≠ cb := blk_ne h.pc h.ci (by decide)
  have hbcb : bb ≠ cb := blk_ne h.bf.1 h.ci (by decide)
  have hgec := h.ge
  have hfs := h.a.fr.size
  have hitem := offs_succ is k _ hi
  have hkl : k < is.length := (List.getElem?_eq_some_iff.1 hi).1
  refine (parseCIE_any pb bb D.length _ mb cb fv L v D (offs is k + 8) rd' 4294967295 w h.pc h.ci h.bf (fun g hg => ?_) h.a.d1 hpcb hbcb (UInt8.ofNat c.version.toNat) c.code c.offset c.ret.toNat _ _ (by omega) (by omega) (by omega) (by omega) body hbody h.hD h.hb (by rw [h.hb]; omega)).mono ?_
  · have := h.a.vl g hg; have := h.a.gp; have := h.a.gb; have := h.fr.size; omega
  rintro e w' ⟨rfl, hpc, ⟨a, n, c', hci, hsl, hso⟩, ⟨rd'', hbf⟩, hfr⟩
  have hF : Fr [pb, bb, mb, cb] w1 w' := (h.fr.mono (bs := [pb, bb, mb, cb]) (by simp +contextual)).trans (hfr.mono (bs := [pb, bb, mb, cb]) (by simp +contextual)) (fun i hi _ => hi)
  have hvn : ∀ g, v.ownBlock = some g → g ∉ [pb, bb, mb, cb] := fun g hg => by
    have := h.a.vl g hg; have := h.a.gp; have := h.a.gb; have := h.a.gm; simp; omega
  have hrow : ∀ g, (Value.slice ae ptrs.length ce).ownBlock = some g → g ∉ [pb, bb, mb, cb] := fun g hg => by
    obtain ⟨cur, hcur⟩ := own_blk h.a.own hg
    have e1 := blk_ne hcur h.a.pc (by decide)
    have e2 := blk_ne hcur h.a.bf.1 (by decide)
    have e3 := map_ne hcur h.a.mp
    have := lt_heap hcur
    simp; omega
  have hmb : MapIs w' mb .i64 (upd f (offs is k : Int) (ptrV cb)) := h.mp.fr hfr (by
    have e1 := map_ne h.pc h.mp; have e2 := map_ne h.bf.1 h.mp; have e3 := map_ne h.ci h.mp
    simp; exact ⟨e1.symm, e2.symm, e3.symm⟩)
  have hold : ∀ cb0 cs, w1.heap[cb0]? = some (.cells cs 138 (0, 0)) → cb0 ∉ [pb, bb, mb, cb] := fun cb0 cs hcs => by
    have e1 := blk_ne hcs h.a.pc (by decide)
    have e2 := blk_ne hcs h.a.bf.1 (by decide)
    have e3 := map_ne hcs h.a.mp
    have := lt_heap hcs
    simp; omega
  have hoff : offs is k + 8 + L = offs is (k + 1) := by
    rw [hitem]; have := h.hb; have := h.bf.2.2.2.1; omega
  rw [hoff] at hbf
  refine ⟨rfl, rd'', hpc, hbf, hmb, own_fr h.a.own hF hrow, ?_, h.a.vl, h.a.gp, h.a.gb, h.a.gm, ?_, ?_, ?_, h.a.nd⟩
  · refine h.a.fr.trans hF (fun i hi hlt => ?_)
    have := h.a.gp; have := h.a.gb; have := h.a.gm; simp at hi; omega
  · intro j cj hj hcj
    by_cases hjk : j = k
    · subst hjk
      rw [hi] at hcj
      simp only [Option.some.injEq, Item.cie.injEq] at hcj
      subst hcj
      exact ⟨cb, by simp [upd], by omega, _, _, a, n, c', z, hci, hsl, by have h1 := congrArg List.length hbody; simp at h1; omega, hso⟩
    · obtain ⟨cb0, h1, h2, h3⟩ := h.a.cies j cj (by omega) hcj
      have hlt := offs_lt is (show j < k by omega) (by omega)
      obtain ⟨cs, hcs⟩ := h3.blk
      exact ⟨cb0, by rw [upd, if_neg (by omega)]; exact h1, h2, h3.fr hF (hold _ _ hcs) hvn⟩
  · rw [fdes_take_cie is k c hi]; exact h.a.fl
  · intro i fb c0 x hfb hx
    rw [fdes_take_cie is k c hi] at hx
    obtain ⟨h1, h2⟩ := h.a.fd i fb c0 x hfb hx
    refine ⟨h1, h2.fr hF (fun b cs t hb ht => ?_) hvn⟩
    obtain ⟨csf, hcsf⟩ := h2.blk
    rcases ht with rfl | rfl
    · exact hold _ _ hb
    · have e1 := blk_ne hcsf h.a.pc (by decide)
      have e2 := blk_ne hcsf h.a.bf.1 (by decide)
      have e3 := map_ne hcsf h.a.mp
      have := lt_heap hcsf
      simp; omega

theorem stepC {w1 : World} {rd' : Bool} {fb cb L : Nat} {body : List UInt8} (h : PF w0 w1 w pb bb mb v D is k cv fv ae ce ptrs f rd rd' fb cb L body) (hD2 : D.length < 1073741824) (hDi : D = itemsL is) (n : Nat) (c : LCommon) (x : LFrame) (hi : is[k]? = some (.fde n c x)) (hr : frB x = true) (z : Nat)
    (hcb : w0.heap.size ≤ cb) (hca : CieAt w1 v cb c) (hcap : ptrs.length ≤ 1000)
    (hbody : body = leL x.start 8 ++ leL x.size 8 ++ (callsL x.calls ++ List.replicate z 0)) :
    Calls Tryz.prog 56 #[ptrV pb] w fun e w' => e = .returned (.func (.func 40) #[] #[]) ∧
      ∃ ae' ce' rd'', PA w0 w' pb bb mb v D is (k + 1) cv (ptrV fb) ae' ce' (ptrs ++ [fb]) f rd'' := by
  obtain ⟨q1, q2, q3, q4, q5⟩ := fr_facts hr
  have hdrop := drop_item is k _ hi
  have hlen := congrArg List.length hdrop
  rw [← hDi] at hlen
  have hle := congrArg List.length h.hD
  simp only [List.length_drop, List.length_append] at hle hlen
  have hitem := offs_succ is k _ hi
  have hge := h.ge
  have hfs := h.a.fr.size
  obtain ⟨cs0, hcs0⟩ := hca.blk
  have hcb1 : cb ≠ pb := blk_ne hcs0 h.a.pc (by decide)
  have hcb2 : cb ≠ bb := blk_ne hcs0 h.a.bf.1 (by decide)
  have hcb3 : cb ≠ fb := by have := lt_heap hcs0; omega
  have hca' : CieAt w v cb c := hca.fr h.fr (by simpa using ⟨hcb1, hcb2⟩) (fun g hg => by have := h.a.vl g hg; have := h.a.gp; have := h.a.gb; simp; omega)
  obtain ⟨L0, N0, a0, n0, k0, z0, hc0, -⟩ := hca'
  have hrow0 : ∀ g, (Value.slice ae ptrs.length ce).ownBlock = some g → g ≠ pb ∧ g ≠ bb ∧ g ≠ fb ∧ v.ownBlock ≠ some g := fun g hg => by
    obtain ⟨cur, hcur⟩ := own_blk h.a.own hg
    have e1 := blk_ne hcur h.a.pc (by decide)
    have e2 := blk_ne hcur h.a.bf.1 (by decide)
    have := lt_heap hcur
    have := (h.a.own.lt g hg).1
    exact ⟨e1, e2, by omega, fun hv => by have := h.a.vl g hv; omega⟩
  have hown : w.ownsRow w0.heap.size 70 1 (.slice ae ptrs.length ce) ptrs.length (ptrs.map ptrV) := own_fr h.a.own h.fr (fun g hg => by have := hrow0 g hg; simpa using ⟨this.1, this.2.1⟩)
  have hpf : pb ≠ fb := blk_ne h.pc h.fd (by decide)
  have hbf : bb ≠ fb := blk_ne h.bf.1 h.fd (by decide)
  refine (parseFDE_any pb bb D.length ae ptrs.length ce mb fb cb cv L v D (offs is k + 8) rd' _ w0.heap.size (ptrs.map ptrV) w h.pc h.fd hc0 rfl h.bf rfl hown (by have := h.fr.size; omega) (by omega) (fun g hg => ?_) hrow0 h.a.d1 hpf hbf hcb1 hcb2 hcb3
    x.start x.size _ _ (by omega) (by omega) body hbody h.hD h.hb (by rw [h.hb]; omega)).mono ?_
  · have := h.a.vl g hg; have := h.a.gp; have := h.a.gb; have := h.fr.size; omega
  rintro e w' ⟨rfl, ae', ce', hpc, ho', ⟨a, n', c', hfd, hsl, hso⟩, ⟨rd'', hbf'⟩, hfr, hg'⟩
  have hF : Fr (pb :: bb :: fb :: (Value.slice ae ptrs.length ce).ownBlock.toList) w1 w' := (h.fr.mono (by simp +contextual)).trans hfr (fun i hi _ => hi)
  have hrow : ∀ g, g ∈ (Value.slice ae ptrs.length ce).ownBlock.toList → ∃ cur, w1.heap[g]? = some (.cells cur 70 (0, 0)) := fun g hg => own_blk h.a.own (by simpa using hg)
  have hnot : ∀ b cs t, w1.heap[b]? = some (.cells cs t (0, 0)) → t = 138 ∨ t = 114 → b ∉ pb :: bb :: fb :: (Value.slice ae ptrs.length ce).ownBlock.toList := fun b cs t hb ht => by
    have hne : t ≠ 109 ∧ t ≠ 132 ∧ t ≠ 70 := by rcases ht with rfl | rfl <;> decide
    have e1 := blk_ne hb h.a.pc hne.1
    have e2 := blk_ne hb h.a.bf.1 hne.2.1
    have := lt_heap hb
    intro hm
    simp only [List.mem_cons] at hm
    rcases hm with rfl | rfl | rfl | hm
    · exact e1 rfl
    · exact e2 rfl
    · omega
    · obtain ⟨cur, hcur⟩ := hrow b hm
      exact blk_ne hb hcur hne.2.2 rfl
  have hvn : ∀ g, v.ownBlock = some g → g ∉ pb :: bb :: fb :: (Value.slice ae ptrs.length ce).ownBlock.toList := fun g hg hm => by
    have h1 := h.a.vl g hg; have := h.a.gp; have := h.a.gb
    simp only [List.mem_cons] at hm
    rcases hm with rfl | rfl | rfl | hm
    · omega
    · omega
    · omega
    · have := (h.a.own.lt g (by simpa using hm)).1; omega
  have hoff : offs is k + 8 + L = offs is (k + 1) := by
    rw [hitem]; have := h.hb; have := h.bf.2.2.2.1; omega
  rw [hoff] at hbf'
  have hlenp : (ptrs ++ [fb]).length = ptrs.length + 1 := by simp
  refine ⟨rfl, ae', ce', rd'', by rw [hlenp]; exact hpc, hbf', ?_, ?_, ?_, h.a.vl, h.a.gp, h.a.gb, h.a.gm, ?_, ?_, ?_, ?_⟩
  · refine h.a.mp.fr hF (fun hm => ?_)
    simp only [List.mem_cons] at hm
    rcases hm with hm | hm | hm | hm
    · exact h.a.d2 hm.symm
    · exact h.a.d3 hm.symm
    · have := h.a.mp.lt; omega
    · obtain ⟨cur, hcur⟩ := hrow _ hm; exact map_ne hcur h.a.mp rfl
  · rw [hlenp, List.map_append]; exact ho'
  · refine h.a.fr.trans hF (fun i hi hlt => ?_)
    have := h.a.gp; have := h.a.gb
    simp only [List.mem_cons] at hi
    rcases hi with rfl | rfl | rfl | hi
    · omega
    · omega
    · omega
    · have := (h.a.own.lt i (by simpa using hi)).1; omega
  · intro j cj hj hcj
    by_cases hjk : j = k
    · subst hjk; rw [hi] at hcj; simp at hcj
    · obtain ⟨cb0, h1, h2, h3⟩ := h.a.cies j cj (by omega) hcj
      obtain ⟨cs, hcs⟩ := h3.blk
      exact ⟨cb0, h1, h2, h3.fr hF (hnot _ _ _ hcs (.inl rfl)) hvn⟩
  · rw [fdes_take_fde is k n c x hi, hlenp, h.a.fl]; simp
  · intro i fb0 c0 x0 hfb hx
    rw [fdes_take_fde is k n c x hi] at hx
    by_cases hil : i < ptrs.length
    · rw [List.getElem?_append_left hil] at hfb
      rw [List.getElem?_append_left (by rw [← h.a.fl]; exact hil)] at hx
      obtain ⟨h1, h2⟩ := h.a.fd i fb0 c0 x0 hfb hx
      refine ⟨h1, h2.fr hF (fun b cs t hb ht => ?_) hvn⟩
      obtain ⟨csf, hcsf⟩ := h2.blk
      rcases ht with rfl | rfl
      · exact hnot _ _ _ hb (.inl rfl)
      · exact hnot _ _ _ hcsf (.inr rfl)
    · have hi0 : i = ptrs.length := by
        have := (List.getElem?_eq_some_iff.1 hfb).1; rw [hlenp] at this; omega
      subst hi0
      simp at hfb
      rw [h.a.fl] at hx
      simp at hx
      obtain ⟨rfl, rfl⟩ := hx
      subst hfb
      refine ⟨by omega, _, cb, a, n', c', z, hfd, hsl, ⟨by have h1 := congrArg List.length hbody; have h2 := h.hb; simp at h1; omega, hso⟩, ?_⟩
      exact hca.fr hF (hnot _ _ _ hcs0 (.inl rfl)) hvn
  · rw [List.nodup_append]
    refine ⟨h.a.nd, by simp, fun b hb b' hb' => ?_⟩
    simp at hb'
    subst hb'
    obtain ⟨i, hi', rfl⟩ := List.getElem_of_mem hb
    have hx : ∃ cx, (fdes (is.take k))[i]? = some cx := ⟨_, List.getElem?_eq_getElem (by rw [← h.a.fl]; exact hi')⟩
    obtain ⟨⟨c0, x0⟩, hx⟩ := hx
    obtain ⟨-, h2⟩ := h.a.fd i _ c0 x0 (List.getElem?_eq_getElem hi') hx
    obtain ⟨cs, hcs⟩ := h2.blk
    have := lt_heap hcs
    omega
end
end Go.Proofs.YtahohmdfllgedaaGreat

namespace Go.Proofs.YtahohmdfllgedaaGreat
open Go.RowKit

set_option maxHeartbeats 1000000 in
theorem newFrameIndex_any (w : World) : Calls Tryz.prog 39 #[] w fun e w' => e = .returned (.slice (some ⟨w.heap.size, 0, none⟩) 0 1000) ∧
    w'.ownsRow w.heap.size 70 1 (.slice (some ⟨w.heap.size, 0, none⟩) 0 1000) 0 [] ∧ Fr [] w w' := by
  obtain ⟨i, hi, hz, hs, hby⟩ := info_parts slicePF.info
  obtain ⟨w', hrun, ho, hg⟩ := run_makeSlice_owned (P := Tryz.prog) (w := w) w.heap.size 63 70 i (.pointer none) 1 Tryz.underlying63 hi hz hs .i64 .i64 1000 (by decide) (by rw [hby]; decide) (by decide) (Nat.le_refl _)
  have hrun2 : (Instr.makeSlice 63 (.int .i64 0) (.int .i64 1000)).run Tryz.prog w = .ok (.slice (some ⟨w.heap.size, 0, none⟩) 0 1000) w' := hrun
  have Ho := Lib.hid ho
  have Hg := Lib.hid hg
  clear hrun ho hg hi hz hs hby
  go_enter Tryz.func39, Tryz.ntmps39
  go_wp2_with fail
  go_ret
  exact ⟨rfl, Ho.out, grown_fr Hg.out⟩

def curOff (w : World) (bb : Nat) : Nat := match w.cell? ⟨bb, 1, none⟩ with | some (.int _ n) => n.toNat | _ => 0
theorem curOff_buf {w : World} {b : Nat} {v : Value} {l : List UInt8} {off : Nat} {rd : Bool} (h : BufR w b v l off rd) : curOff w b = off := by
  have : w.cell? ⟨b, 1, none⟩ = some (.int .i64 (off : Int)) := by rw [blk_cell h.1]; rfl
  simp [curOff, this]

abbrev fnL : Value := .func (.func 40) #[] #[]
abbrev fnC : Value := .func (.func 54) #[] #[]
abbrev fnF : Value := .func (.func 56) #[] #[]

/-- Where the loop stands. -/
def PInv (w0 w : World) (pb bb mb : Nat) (v : Value) (D : List UInt8) (is : List Item) (fn : Value) : Prop :=
  (∃ k cv fv ae ce ptrs f rd, fn = fnL ∧ k ≤ is.length ∧ PA w0 w pb bb mb v D is k cv fv ae ce ptrs f rd) ∨
  (∃ w1 k cv fv ae ce ptrs f rd rd' cb c body z, fn = fnC ∧ is[k]? = some (.cie c) ∧ body = [UInt8.ofNat c.version.toNat, 0] ++ uleb c.code ++ sleb c.offset ++ uleb c.ret.toNat ++ (callsL c.calls ++ List.replicate z 0) ∧
    PB w0 w1 w pb bb mb v D is k cv fv ae ce ptrs f rd rd' cb body.length body) ∨
  (∃ w1 k cv fv ae ce ptrs f rd rd' fb cb n c x body z, fn = fnF ∧ is[k]? = some (.fde n c x) ∧ body = leL x.start 8 ++ leL x.size 8 ++ (callsL x.calls ++ List.replicate z 0) ∧ w0.heap.size ≤ cb ∧ CieAt w1 v cb c ∧
    PF w0 w1 w pb bb mb v D is k cv fv ae ce ptrs f rd rd' fb cb body.length body)

/-- What the loop wants of the entries. -/
structure ItemsOk (is : List Item) (D : List UInt8) : Prop where
  hD : D = itemsL is
  hl : D.length < 1073741824
  hc : ∀ (k : Nat) (c : LCommon), is[k]? = some (.cie c) → rcB c = true
  hf : ∀ (k n : Nat) (c : LCommon) (x : LFrame), is[k]? = some (.fde n c x) → frB x = true ∧ ∃ j, j < k ∧ is[j]? = some (.cie c) ∧ n = offs is j
  hn : (fdes is).length ≤ 1000

/-- Behind a call of the loop: what the walk reads next, and the loop's state with its offset. -/
def PNext (w0 : World) (pb bb mb : Nat) (v : Value) (D : List UInt8) (is : List Item) (off : Nat) (e : Ending) (w' : World) : Prop :=
  ∃ fn, e = .returned fn ∧ PInv w0 w' pb bb mb v D is fn ∧ off < curOff w' bb ∧ curOff w' bb ≤ D.length ∧ w'.cell? ⟨pb, 10, none⟩ = some .nilIface ∧ (fn = fnL ∨ fn = fnC ∨ fn = fnF)

section
variable {w0 w : World} {pb bb mb : Nat} {v : Value} {D : List UInt8} {is : List Item} {k : Nat} {cv fv : Value} {ae : Option Addr} {ce : Nat} {ptrs : List Nat} {f : Int → Option Value} {rd : Bool}
theorem PA.drewN (h : PA w0 w pb bb mb v D is k cv fv ae ce ptrs f rd) (n : Nat) : PA w0 (w.drewN n) pb bb mb v D is k cv fv ae ce ptrs f rd :=
  ⟨h.pc, h.bf, h.mp, h.own, h.fr.drewN n, h.vl, h.gp, h.gb, h.gm, h.cies, h.fl, h.fd, h.nd⟩
theorem PB.drewN {w1 : World} {rd' : Bool} {cb L : Nat} {body : List UInt8} (h : PB w0 w1 w pb bb mb v D is k cv fv ae ce ptrs f rd rd' cb L body) (n : Nat) : PB w0 w1 (w.drewN n) pb bb mb v D is k cv fv ae ce ptrs f rd rd' cb L body :=
  ⟨h.a, h.pc, h.ci, h.bf, h.mp, h.fr.drewN n, h.ge, h.hb, h.hD⟩
theorem PF.drewN {w1 : World} {rd' : Bool} {fb cb L : Nat} {body : List UInt8} (h : PF w0 w1 w pb bb mb v D is k cv fv ae ce ptrs f rd rd' fb cb L body) (n : Nat) : PF w0 w1 (w.drewN n) pb bb mb v D is k cv fv ae ce ptrs f rd rd' fb cb L body :=
  ⟨h.a, h.pc, h.fd, h.bf, h.fr.drewN n, h.ge, h.hb, h.hD⟩
theorem nextA (I : ItemsOk is D) (h : PA w0 w pb bb mb v D is k cv fv ae ce ptrs f rd) (hk : k < is.length) : Calls Tryz.prog 40 #[ptrV pb] w (PNext w0 pb bb mb v D is (offs is k)) := by
  obtain ⟨i, hi⟩ : ∃ i, is[k]? = some i := ⟨_, List.getElem?_eq_getElem hk⟩
  cases i with
  | cie c =>
    refine (stepA_cie h I.hD I.hl c hi).mono ?_
    rintro e w' ⟨rfl, cb, rd', body, z, hb, hB⟩
    refine ⟨_, rfl, .inr (.inl ⟨w, k, cv, fv, ae, ce, ptrs, f, rd, rd', cb, c, body, z, rfl, hi, hb, hB⟩), ?_, ?_, blk_cell hB.pc 10, .inr (.inl rfl)⟩
    · rw [curOff_buf hB.bf]; omega
    · rw [curOff_buf hB.bf]; exact hB.bf.2.2.2.1
  | fde n c x =>
    obtain ⟨-, j, hj, hjc, hn⟩ := I.hf k n c x hi
    refine (stepA_fde h I.hD I.hl n c x hi j hj hjc hn).mono ?_
    rintro e w' ⟨rfl, fb, cb, rd', body, z, hb, hcg, hca, hF⟩
    refine ⟨_, rfl, .inr (.inr ⟨w, k, cv, fv, ae, ce, ptrs, f, rd, rd', fb, cb, n, c, x, body, z, rfl, hi, hb, hcg, hca, hF⟩), ?_, ?_, blk_cell hF.pc 10, .inr (.inr rfl)⟩
    · rw [curOff_buf hF.bf]; omega
    · rw [curOff_buf hF.bf]; exact hF.bf.2.2.2.1

theorem off_gt {w1 : World} {rd' : Bool} {off' : Nat} {i : Item} {body : List UInt8} (hi : is[k]? = some i) (hD : D = itemsL is) (h : D.drop (offs is k + 8) = body ++ itemsL (is.drop (k + 1))) (hp : 0 < body.length) (hb : BufR w1 bb v D off' rd') (he : off' = offs is k + 8) :
    off' < D.length ∧ offs is k + 8 < offs is (k + 1) ∧ offs is (k + 1) ≤ D.length := by
  have h1 := congrArg List.length h
  have h2 := congrArg List.length (drop_item is k _ hi)
  rw [← hD] at h2
  simp only [List.length_drop, List.length_append] at h1 h2
  have h3 := offs_succ is k _ hi
  have h4 := hb.2.2.2.1
  omega
theorem nextB (I : ItemsOk is D) {w1 : World} {rd' : Bool} {cb : Nat} {c : LCommon} {body : List UInt8} {z : Nat} (hi : is[k]? = some (.cie c)) (hb : body = [UInt8.ofNat c.version.toNat, 0] ++ uleb c.code ++ sleb c.offset ++ uleb c.ret.toNat ++ (callsL c.calls ++ List.replicate z 0))
    (h : PB w0 w1 w pb bb mb v D is k cv fv ae ce ptrs f rd rd' cb body.length body) : Calls Tryz.prog 54 #[ptrV pb] w (PNext w0 pb bb mb v D is (offs is k + 8)) := by
  refine (stepB h I.hl I.hD c hi (I.hc k c hi) z hb).mono ?_
  rintro e w' ⟨rfl, rd'', hA⟩
  have hk : k < is.length := (List.getElem?_eq_some_iff.1 hi).1
  have := off_gt hi I.hD h.hD (by rw [hb]; simp) h.bf rfl
  refine ⟨_, rfl, .inl ⟨k + 1, _, _, _, _, _, _, _, rfl, hk, hA⟩, ?_, ?_, blk_cell hA.pc 10, .inl rfl⟩
  · rw [curOff_buf hA.bf]; exact this.2.1
  · rw [curOff_buf hA.bf]; exact this.2.2
theorem nextF (I : ItemsOk is D) {w1 : World} {rd' : Bool} {fb cb n : Nat} {c : LCommon} {x : LFrame} {body : List UInt8} {z : Nat} (hi : is[k]? = some (.fde n c x)) (hb : body = leL x.start 8 ++ leL x.size 8 ++ (callsL x.calls ++ List.replicate z 0)) (hcg : w0.heap.size ≤ cb) (hca : CieAt w1 v cb c)
    (h : PF w0 w1 w pb bb mb v D is k cv fv ae ce ptrs f rd rd' fb cb body.length body) : Calls Tryz.prog 56 #[ptrV pb] w (PNext w0 pb bb mb v D is (offs is k + 8)) := by
  have hk : k < is.length := (List.getElem?_eq_some_iff.1 hi).1
  have hcap : ptrs.length ≤ 1000 := by
    rw [h.a.fl]
    have e : fdes is = fdes (is.take k) ++ fdes (is.drop k) := by rw [fdes, fdes, fdes, ← List.filterMap_append, List.take_append_drop]
    have := congrArg List.length e; rw [List.length_append] at this; have := I.hn; omega
  refine (stepC h I.hl I.hD n c x hi (I.hf k n c x hi).1 z hcg hca hcap hb).mono ?_
  rintro e w' ⟨rfl, ae', ce', rd'', hA⟩
  have := off_gt hi I.hD h.hD (by rw [hb]; simp [leL_length]; omega) h.bf rfl
  refine ⟨_, rfl, .inl ⟨k + 1, _, _, _, _, _, _, _, rfl, hk, hA⟩, ?_, ?_, blk_cell hA.pc 10, .inl rfl⟩
  · rw [curOff_buf hA.bf]; exact this.2.1
  · rw [curOff_buf hA.bf]; exact this.2.2
end
abbrev ordLE : Value := .iface 69 (.agg #[])

set_option maxRecDepth 100000 in
set_option maxHeartbeats 20000000 in
theorem Parse_any (a : Option Addr) (c : Nat) (D : List UInt8) (is : List Item) (w : World) (I : ItemsOk is D) (hs : Sl w (.slice a D.length c) (vbs D)) (hv : ∀ g, (Value.slice a D.length c).ownBlock = some g → g < w.heap.size) :
    Calls Tryz.prog 23 #[.slice a D.length c, ordLE, .int .u64 0, .int .i64 8, .int .u64 0] w fun e w' => ∃ ae ce, ∃ ptrs : List Nat,
      e = .returned (.tuple #[.slice ae ptrs.length ce, .nilIface]) ∧ w'.ownsRow w.heap.size 70 1 (.slice ae ptrs.length ce) ptrs.length (ptrs.map ptrV) ∧ ptrs.length = (fdes is).length ∧
      (∀ (i fb : Nat) (c' : LCommon) (x : LFrame), ptrs[i]? = some fb → (fdes is)[i]? = some (c', x) → FdeAt w' (.slice a D.length c) fb ordLE c' x) ∧ Fr [] w w' := by
  have HI := Lib.hid I
  have hl := I.hl
  have Hs := Lib.hid hs
  have Hv := Lib.hid hv
  clear I hs hv
  have hmm := @run_makeMap Tryz.prog
  go_enter Tryz.func23, Tryz.ntmps23
  go_wp2_with (go_at_call 38; refine (NewBuffer_any a D.length c _).mono ?_; rintro e w' ⟨rfl, rfl⟩)
  have hb1 : BufR (w.alloc (.cells #[.slice a D.length c, .int .i64 0, .bool false] 132 (0, 0))) w.heap.size (.slice a D.length c) D 0 false := BufR_new Hs.out Hv.out (by omega)
  have hF1 : Fr [] w (w.alloc (.cells #[.slice a D.length c, .int .i64 0, .bool false] 132 (0, 0))) := (Fr.refl _ _).alloc _
  generalize w.alloc (.cells #[.slice a D.length c, .int .i64 0, .bool false] 132 (0, 0)) = w1 at *
  have HB1 := Lib.hid hb1
  have HF1 := Lib.hid hF1
  obtain ⟨bb, hbb⟩ : ∃ bb, w.heap.size = bb := ⟨_, rfl⟩
  rw [hbb] at HB1
  clear hb1 hF1
  go_wp2_with (go_at_call 39; refine (newFrameIndex_any _).mono ?_)
  rintro e w2 ⟨rfl, ho2, hf2⟩
  have HO2 := Lib.hid ho2
  have HF2 := Lib.hid hf2
  clear ho2 hf2
  obtain ⟨rb, hrb⟩ : ∃ rb, w1.heap.size = rb := ⟨_, rfl⟩
  rw [hrb] at HO2 ⊢
  have Hbb := Lib.hid hbb
  have Hrb := Lib.hid hrb
  simp only [hbb]
  clear hbb hrb
  go_wp2_with fail
  have hF3 : Fr [] w2 ((w2.alloc (.map #[] 0)).alloc (.cells #[.int .u64 0, .pointer (some ⟨bb, 0, none⟩), .int .i64 (D.length : Int), .slice (some ⟨rb, 0, none⟩) 0 1000, .map (some w2.heap.size), .pointer none, .pointer none, .int .u32 0, .int .i64 8, .int .u64 0, .nilIface] 109 (0, 0))) := ((Fr.refl _ _).alloc _).alloc _
  have hA : PA w ((w2.alloc (.map #[] 0)).alloc (.cells #[.int .u64 0, .pointer (some ⟨bb, 0, none⟩), .int .i64 (D.length : Int), .slice (some ⟨rb, 0, none⟩) 0 1000, .map (some w2.heap.size), .pointer none, .pointer none, .int .u32 0, .int .i64 8, .int .u64 0, .nilIface] 109 (0, 0))) (w2.heap.size + 1) bb w2.heap.size (.slice a D.length c) D is 0 (.pointer none) (.pointer none) (some ⟨rb, 0, none⟩) 1000 [] (fun _ => none) false := by
    have e1 := HF1.out.size
    have e2 := HF2.out.size
    have e3 := Hbb.out
    have e4 := Hrb.out
    have hn := blk_new (w2.alloc (.map #[] 0)) (.cells #[.int .u64 0, .pointer (some ⟨bb, 0, none⟩), .int .i64 (D.length : Int), .slice (some ⟨rb, 0, none⟩) 0 1000, .map (some w2.heap.size), .pointer none, .pointer none, .int .u32 0, .int .i64 8, .int .u64 0, .nilIface] 109 (0, 0))
    rw [World.size_alloc] at hn
    refine ⟨hn, ?_, MapIs.empty _ (blk_alloc (blk_new w2 _)), ?_, (HF1.out.then HF2.out).then hF3, Hv.out, by omega, by omega, by omega, fun j c h => by omega, by simp [fdes], fun i fb c x h => by simp at h, List.nodup_nil⟩
    · have := (HB1.out.fr HF2.out (by simp) (by simp)).fr hF3 (by simp) (by simp)
      simpa [offs, itemsL] using this
    · exact own_base (own_fr HO2.out hF3 (by simp)) (by omega)
  have HP : Hid (PInv w ((w2.alloc (.map #[] 0)).alloc (.cells #[.int .u64 0, .pointer (some ⟨bb, 0, none⟩), .int .i64 (D.length : Int), .slice (some ⟨rb, 0, none⟩) 0 1000, .map (some w2.heap.size), .pointer none, .pointer none, .int .u32 0, .int .i64 8, .int .u64 0, .nilIface] 109 (0, 0))) (w2.heap.size + 1) bb w2.heap.size (.slice a D.length c) D is fnL) :=
    .inl ⟨0, _, _, _, _, _, _, _, rfl, Nat.zero_le _, hA⟩
  clear hF3 hA HO2
  generalize (w2.alloc (.map #[] 0)).alloc (.cells #[.int .u64 0, .pointer (some ⟨bb, 0, none⟩), .int .i64 (D.length : Int), .slice (some ⟨rb, 0, none⟩) 0 1000, .map (some w2.heap.size), .pointer none, .pointer none, .int .u32 0, .int .i64 8, .int .u64 0, .nilIface] 109 (0, 0)) = w3 at *
  obtain ⟨mb, hmb⟩ : ∃ mb, w2.heap.size = mb := ⟨_, rfl⟩
  obtain ⟨pb, hpb⟩ : ∃ pb, w2.heap.size + 1 = pb := ⟨_, rfl⟩
  rw [hpb, hmb] at HP
  simp only [hpb]
  simp only [hmb]
  clear hpb hmb hmm
  go_loopw [14] (fun fn wr => PInv w wr pb bb mb (.slice a D.length c) D is fn) (fun _ wr => D.length - curOff wr bb)
  case atStart => exact HP.out
  case round =>
    clear HP
    have Hrel := Lib.hid hrel
    clear hrel
    rcases Hrel.out with ⟨k, cv, fv, ae, ce, ptrs, f, rd, rfl, hk, hA⟩ | ⟨w1', k, cv, fv, ae, ce, ptrs, f, rd, rd', cb, c', body, z, rfl, hi, hb, hB⟩ | ⟨w1', k, cv, fv, ae, ce, ptrs, f, rd, rd', fb, cb, n, c', x, body, z, rfl, hi, hb, hcg, hca, hF⟩
    · by_cases hlt : k < is.length
      · as_aux_lemma =>
        have hm := offs_lt is hlt (Nat.le_refl _)
        rw [offs_all, ← HI.out.hD] at hm
        have hne : (((D.length - offs is k : Nat) : Int) != 0) = true := by rw [bne_iff_ne]; omega
        have HA := Lib.hid hA
        clear hA
        obtain ⟨x, hx⟩ : ∃ x, D.length - offs is k = x := ⟨_, rfl⟩
        rw [hx] at hne
        have Hx : Hid (offs is k + x = D.length) := by show _ = _; omega
        have HO := Lib.hid (curOff_buf HA.out.bf)
        clear hx
        go_wp2_with (first | (go_at_call 41; go_must (refine (BufLen_any bb _ D (offs is k) x rd _ HA.out.bf Hx.out).mono ?_); rintro e w' ⟨rfl, kq, rfl⟩) | (go_at_call 40; go_must (refine (nextA HI.out (HA.out.drewN _) hlt).mono ?_); rintro e w4 ⟨fn, rfl, hn1, hn2, hn3, hn4, hn5⟩; have HN1 := Lib.hid hn1; have HN2 := Lib.hid hn2; have HN3 := Lib.hid hn3; clear hn1 hn2 hn3 hn5))
        exact ⟨HN1.out, by have := HN2.out; have := HO.out; have := HN3.out; omega⟩
      · obtain rfl : k = is.length := by omega
        have HA := Lib.hid hA
        have hz : offs is is.length + 0 = D.length := by rw [offs_all, HI.out.hD]; rfl
        have Hz := Lib.hid hz
        have c3 : ∀ n, (wr.drewN n).cell? ⟨pb, 3, none⟩ = some (.slice ae ptrs.length ce) := fun n => blk_cell HA.out.pc 3
        clear hlt hk hA hz
        go_wp2_with (go_at_call 41; go_must (refine (BufLen_any bb _ D (offs is is.length) 0 rd _ HA.out.bf Hz.out).mono ?_); rintro e w' ⟨rfl, kq, rfl⟩)
        have hfa : fdes (is.take is.length) = fdes is := by rw [List.take_length]
        have hfl := HA.out.fl
        rw [hfa] at hfl
        have HFL := Lib.hid hfl
        have hcap := HI.out.hn
        rw [← hfl] at hcap
        clear hfl c3
        obtain ⟨wo, rfl⟩ : ∃ wo : World, wo = wr := ⟨_, rfl⟩
        go_loopw [48] (fun s wx => ∃ i : Nat, i ≤ ptrs.length ∧ s = .int .i64 (i : Int) ∧ PC wx pb bb D.length (.slice ae ptrs.length ce) mb cv fv 0 ∧ wx.ownsRow w.heap.size 70 1 (.slice ae ptrs.length ce) ptrs.length (ptrs.map ptrV) ∧ Fr [] w wx ∧
          (∀ (j fb : Nat) (c' : LCommon) (x : LFrame), ptrs[j]? = some fb → (fdes is)[j]? = some (c', x) → FdeAt wx (.slice a D.length c) fb (if j < i then ordLE else .nilIface) c' x)) (fun s _ => ptrs.length - (intOf s).toNat)
        case atStart =>
          refine ⟨0, Nat.zero_le _, rfl, HA.out.pc, HA.out.own, HA.out.fr.drewN _, fun j fb c' x h1 h2 => ?_⟩
          rw [← hfa] at h2
          rw [if_neg (by omega)]
          exact ((HA.out.fd j fb c' x h1 h2).2).fr (Fr.drewN (Fr.refl [] _) _) (by simp) (by simp)
        case round =>
          obtain ⟨i, hi, rfl, hpc, hown, hfr, hfd⟩ := hrel
          have HPC := Lib.hid hpc
          have HOW := Lib.hid hown
          have HFR := Lib.hid hfr
          have HFD := Lib.hid hfd
          clear hpc hown hfr hfd
          have c3 : wr.cell? ⟨pb, 3, none⟩ = some (.slice ae ptrs.length ce) := blk_cell HPC.out 3
          by_cases hit : i < ptrs.length
          case neg =>
            obtain rfl : i = ptrs.length := by omega
            clear hit
            go_wp2
            go_ret2
            refine ⟨ae, ce, ptrs, rfl, HOW.out, HFL.out, fun j fb c' x h1 h2 => ?_, HFR.out⟩
            have := HFD.out j fb c' x h1 h2
            rwa [if_pos (List.getElem?_eq_some_iff.1 h1).1] at this
          case pos =>
            obtain ⟨g, cap, hv, -, hcap1, hcap2⟩ := own_some HOW.out (by omega)
            simp only [Value.slice.injEq] at hv
            obtain ⟨rfl, -, rfl⟩ := hv
            unfold maxLen at hcap2
            obtain ⟨fb, hfb⟩ : ∃ fb, ptrs[i]? = some fb := ⟨_, List.getElem?_eq_getElem hit⟩
            obtain ⟨⟨c', x⟩, hx⟩ : ∃ y, (fdes is)[i]? = some y := ⟨_, List.getElem?_eq_getElem (by rw [← HFL.out]; exact hit)⟩
            have hrow : wr.cell? ⟨g, i, none⟩ = some (ptrV fb) := by
              have := HOW.out.cells (g := g) rfl i (ptrV fb) (by simp [hfb])
              rwa [Addr.add_lit, Nat.zero_add] at this
            have hat := HFD.out i fb c' x hfb hx
            rw [if_neg (Nat.lt_irrefl _)] at hat
            have Hat := Lib.hid hat
            obtain ⟨L0, cb0, a0, n0, k0, z0, hb0, hs0, ho0, hc0⟩ := hat
            have s5 : wr.cell? ⟨fb, 5, none⟩ = some .nilIface := by rw [blk_cell hb0]; rfl
            have z5 : wr.frozen? ⟨fb, 5, none⟩ = false := blk_free hb0 5
            have Hfb := Lib.hid hfb
            have Hx := Lib.hid hx
            have HB0 := Lib.hid hb0
            have HS0 := Lib.hid hs0
            have HO0 := Lib.hid ho0
            have HC0 := Lib.hid hc0
            clear hfb hx hb0 hs0 ho0 hc0
            go_wp2_with fail
            go_roundw
            case rel =>
              have hf : Fr [fb] wr (wr.setCell ⟨fb, 5, none⟩ ordLE) := (Fr.refl _ _).setCell (.inl (by simp)) _
              have hgf : fb ≠ pb := blk_ne HB0.out HPC.out (by decide)
              have hvf : ∀ g, (Value.slice a D.length c).ownBlock = some g → g ∉ [fb] := fun g' hg' => by
                have h1 := HA.out.vl g' hg'
                have h2 := (HA.out.fd i fb c' x Hfb.out (by rw [hfa]; exact Hx.out)).1
                simp; omega
              refine ⟨i + 1, by omega, by go_num, HPC.out.fr hf (by simpa using hgf.symm), own_fr HOW.out hf (fun g' hg' => ?_), ?_, fun j fj cj xj h1 h2 => ?_⟩
              · obtain ⟨cur, hcur⟩ := own_blk HOW.out hg'
                simpa using blk_ne hcur HB0.out (by decide)
              · exact HFR.out.trans hf (fun b hb hlt => by
                  have h2 := (HA.out.fd i fb c' x Hfb.out (by rw [hfa]; exact Hx.out)).1
                  simp at hb; omega)
              · obtain ⟨cs0, hcs0⟩ := HC0.out.blk
                have hcf : cb0 ∉ [fb] := by simpa using blk_ne hcs0 HB0.out (by decide)
                by_cases hji : j = i
                · subst hji
                  rw [Hfb.out] at h1
                  rw [Hx.out] at h2
                  simp only [Option.some.injEq, Prod.mk.injEq] at h1 h2
                  obtain ⟨rfl, rfl⟩ := h2
                  subst h1
                  rw [if_pos (by omega)]
                  exact ⟨L0, cb0, a0, n0, k0, z0, blk_set HB0.out 5 ordLE, HS0.out.fr hf (fun g' hg' => hvf g' (HO0.out.2 g' hg')), HO0.out, HC0.out.fr hf hcf hvf⟩
                · have hj := HFD.out j fj cj xj h1 h2
                  have hne : fj ≠ fb := by
                    rintro rfl
                    have hnd := HA.out.nd
                    rw [List.nodup_iff_pairwise_ne, List.pairwise_iff_getElem] at hnd
                    obtain ⟨hjl, he1⟩ := List.getElem?_eq_some_iff.1 h1
                    obtain ⟨hil, he2⟩ := List.getElem?_eq_some_iff.1 Hfb.out
                    rcases Nat.lt_or_gt_of_ne hji with h | h
                    · exact hnd j i hjl hil h (by rw [he1, he2])
                    · exact hnd i j hil hjl h (by rw [he1, he2])
                  have e : (if j < i + 1 then ordLE else Value.nilIface) = (if j < i then ordLE else .nilIface) := by
                    by_cases hlt : j < i
                    · rw [if_pos hlt, if_pos (by omega)]
                    · rw [if_neg hlt, if_neg (by omega)]
                  rw [e]
                  refine hj.fr hf (fun b cs t hb ht => ?_) hvf
                  rcases ht with rfl | rfl
                  · simpa using blk_ne hb HB0.out (by decide)
                  · simpa using hne
            case measure => simp [intOf]; omega
    · as_aux_lemma =>
      have hm := (off_gt hi HI.out.hD hB.hD (by rw [hb]; simp) hB.bf rfl).1
      obtain ⟨x, hx⟩ : ∃ x, D.length - (offs is k + 8) = x := ⟨_, rfl⟩
      have hne : ((x : Int) != 0) = true := by rw [bne_iff_ne]; omega
      have HX := Lib.hid hB
      have Hx : Hid (offs is k + 8 + x = D.length) := by show _ = _; omega
      have HO := Lib.hid (curOff_buf hB.bf)
      have HN : Hid (∀ n, Calls Tryz.prog 54 #[ptrV pb] (wr.drewN n) (PNext w pb bb mb (.slice a D.length c) D is (offs is k + 8))) := fun n => nextB HI.out hi hb (HX.out.drewN n)
      clear hx hB hb hi
      go_wp2_with (first | (go_at_call 41; go_must (refine (BufLen_any bb _ D (offs is k + 8) x rd' _ HX.out.bf Hx.out).mono ?_); rintro e w' ⟨rfl, kq, rfl⟩) | (go_at_call 54; go_must (refine (HN.out _).mono ?_); rintro e w4 ⟨fn, rfl, hn1, hn2, hn3, hn4, hn5⟩; have HN1 := Lib.hid hn1; have HN2 := Lib.hid hn2; have HN3 := Lib.hid hn3; clear hn1 hn2 hn3 hn5))
      exact ⟨HN1.out, by have := HN2.out; have := HO.out; have := HN3.out; omega⟩
    · as_aux_lemma =>
      have hm := (off_gt hi HI.out.hD hF.hD (by rw [hb]; simp [leL_length]; omega) hF.bf rfl).1
      obtain ⟨x, hx⟩ : ∃ x, D.length - (offs is k + 8) = x := ⟨_, rfl⟩
      have hne : ((x : Int) != 0) = true := by rw [bne_iff_ne]; omega
      have HX := Lib.hid hF
      have Hx : Hid (offs is k + 8 + x = D.length) := by show _ = _; omega
      have HO := Lib.hid (curOff_buf hF.bf)
      have HN : Hid (∀ n, Calls Tryz.prog 56 #[ptrV pb] (wr.drewN n) (PNext w pb bb mb (.slice a D.length c) D is (offs is k + 8))) := fun n => nextF HI.out hi hb hcg hca (HX.out.drewN n)
      clear hx hF hb hi
      go_wp2_with (first | (go_at_call 41; go_must (refine (BufLen_any bb _ D (offs is k + 8) x rd' _ HX.out.bf Hx.out).mono ?_); rintro e w' ⟨rfl, kq, rfl⟩) | (go_at_call 56; go_must (refine (HN.out _).mono ?_); rintro e w4 ⟨fn, rfl, hn1, hn2, hn3, hn4, hn5⟩; have HN1 := Lib.hid hn1; have HN2 := Lib.hid hn2; have HN3 := Lib.hid hn3; clear hn1 hn2 hn3 hn5))
      exact ⟨HN1.out, by have := HN2.out; have := HO.out; have := HN3.out; omega⟩
end Go.Proofs.YtahohmdfllgedaaGreat

namespace Go.Proofs.YtahohmdfllgedaaGreat
open Go.RowKit

set_option maxHeartbeats 1000000 in
theorem fdeBegin_any (w : World) (v : Value) (fb : Nat) (o : Value) (c : LCommon) (x : LFrame) (h : FdeAt w v fb o c x) : Calls Tryz.prog 29 #[ptrV fb] w fun e w' => e = .returned (.int .u64 (x.start : Int)) ∧ w = w' := by
  obtain ⟨L, cb, a, n, k, z, hb, -⟩ := h
  have c3 : w.cell? ⟨fb, 3, none⟩ = some (.int .u64 (x.start : Int)) := by rw [blk_cell hb]; rfl
  clear hb
  go_enter Tryz.func29, Tryz.ntmps29
  go_wp2_with fail
  go_ret
  exact ⟨rfl, rfl⟩
set_option maxHeartbeats 1000000 in
theorem fdeEnd_any (w : World) (v : Value) (fb : Nat) (o : Value) (c : LCommon) (x : LFrame) (h : FdeAt w v fb o c x) (h1 : x.start ≤ 1099511627776) (h2 : x.size ≤ 1048576) :
    Calls Tryz.prog 30 #[ptrV fb] w fun e w' => e = .returned (.int .u64 ((x.start + x.size : Nat) : Int)) ∧ ∃ k, w' = w.drewN k := by
  obtain ⟨L, cb, a, n, k, z, hb, -⟩ := h
  have c3 : w.cell? ⟨fb, 3, none⟩ = some (.int .u64 (x.start : Int)) := by rw [blk_cell hb]; rfl
  have c4 : w.cell? ⟨fb, 4, none⟩ = some (.int .u64 (x.size : Int)) := by rw [blk_cell hb]; rfl
  have e : IntKind.u64.wrap ((x.start : Int) + (x.size : Int)) = ((x.start + x.size : Nat) : Int) := by simp [IntKind.wrap, IntKind.signed, IntKind.bits]; omega
  obtain ⟨y, hy⟩ : ∃ y, x.start + x.size = y := ⟨_, rfl⟩
  rw [hy] at e ⊢
  clear hb hy
  go_enter Tryz.func30, Tryz.ntmps30
  go_wp2_with fail
  go_quiet (fail)
  go_wp2
  go_ret
  exact ⟨rfl, _, rfl⟩
theorem FdeAt.idle {w w' : World} {v : Value} {fb : Nat} {o : Value} {c : LCommon} {f : LFrame} (h : FdeAt w v fb o c f) (fr : Fr [] w w') : FdeAt w' v fb o c f := h.fr fr (by simp) (by simp)

def inF (x : LFrame) (pc : Nat) : Bool := decide (x.start ≤ pc ∧ pc < x.start + x.size)

set_option maxHeartbeats 2000000 in
theorem Cover_any (w : World) (v : Value) (fb pc : Nat) (o : Value) (c : LCommon) (x : LFrame) (h : FdeAt w v fb o c x) (h1 : x.start ≤ 1099511627776) (h2 : x.size ≤ 1048576) (hp : pc < 18446744073709551616) :
    Calls Tryz.prog 44 #[ptrV fb, .int .u64 (pc : Int)] w fun e w' => e = .returned (.bool (inF x pc)) ∧ ∃ k, w' = w.drewN k := by
  obtain ⟨L, cb, a, n, k, z, hb, -⟩ := h
  have c3 : w.cell? ⟨fb, 3, none⟩ = some (.int .u64 (x.start : Int)) := by rw [blk_cell hb]; rfl
  have c4 : w.cell? ⟨fb, 4, none⟩ = some (.int .u64 (x.size : Int)) := by rw [blk_cell hb]; rfl
  obtain ⟨y, hy⟩ : ∃ y : Nat, IntKind.u64.wrap ((pc : Int) - (x.start : Int)) = (y : Int) ∧ decide (y < x.size) = inF x pc := by
    refine ⟨if x.start ≤ pc then pc - x.start else 18446744073709551616 + pc - x.start, ?_, ?_⟩
    · rw [IntKind.wrap_u64]; split <;> omega
    · unfold inF; apply decide_eq_decide.2; split <;> omega
  obtain ⟨e, hy⟩ := hy
  have HY := Lib.hid hy
  generalize x.start = st at *
  generalize x.size = sz at *
  clear hb hy
  go_enter Tryz.func44, Tryz.ntmps44
  go_wp2_with fail
  go_quiet (fail)
  go_wp2
  go_ret
  exact ⟨by rw [HY.out]; rfl, _, rfl⟩

theorem ptr_at {w wr : World} {a : Option Addr} {n c : Nat} {ptrs : List Nat} (h : Sl w (.slice a n c) (ptrs.map ptrV)) (f : Fr [] w wr) (k : Nat) (hk : k < ptrs.length) : ∃ g o, a = some ⟨g, o, none⟩ ∧ wr.cell? ⟨g, o + k, none⟩ = some (ptrV ptrs[k]) := by
  obtain ⟨g, o, c', hv, -, -, hc⟩ := sl_some h (by simp; omega)
  simp only [Value.slice.injEq] at hv
  exact ⟨g, o, hv.1, f.cell (hc k _ (by simp [hk])) (by simp)⟩

set_option maxRecDepth 100000 in
set_option maxHeartbeats 4000000 in
theorem FDEForPC1_any (w : World) (v : Value) (ab pb i pc : Nat) (a : Option Addr) (n cp : Nat) (ptrs : List Nat) (c : LCommon) (x : LFrame) (hi : i < ptrs.length) (hs : Sl w (.slice a n cp) (ptrs.map ptrV)) (hn : ptrs.length = n) (hnl : n ≤ 1099511627776)
    (h : FdeAt w v ptrs[i] ordLE c x) (h0 : ¬ x.size = 0) (h1 : x.start ≤ 1099511627776) (h2 : x.size ≤ 1048576) (hp : pc < 18446744073709551616) (ha : w.cell? ⟨ab, 0, none⟩ = some (.slice a n cp)) (hb : w.cell? ⟨pb, 0, none⟩ = some (.int .u64 (pc : Int))) :
    Calls Tryz.prog 43 #[.int .i64 (i : Int), .pointer (some ⟨ab, 0, none⟩), .pointer (some ⟨pb, 0, none⟩)] w fun e w' => e = .returned (.bool (decide (pc < x.start + x.size))) ∧ ∃ k, w' = w.drewN k := by
  obtain ⟨g, o, rfl, hc⟩ := ptr_at hs (Fr.refl [] w) i hi
  have hin : i < n := by omega
  have HF : Hid (∀ k, FdeAt (w.drewN k) v ptrs[i] ordLE c x) := fun k => h.idle (Fr.drewN (Fr.refl [] w) k)
  generalize ptrs[i] = fb at *
  have HC : Hid (∀ k, Calls Tryz.prog 44 #[ptrV fb, .int .u64 (pc : Int)] (w.drewN k) fun e w' => e = .returned (.bool (inF x pc)) ∧ ∃ m, w' = (w.drewN k).drewN m) := fun k => Cover_any _ v fb pc ordLE c x (HF.out k) h1 h2 hp
  have HB : Hid (∀ k, Calls Tryz.prog 29 #[ptrV fb] (w.drewN k) fun e w' => e = .returned (.int .u64 (x.start : Int)) ∧ w' = w.drewN k) := fun k => (fdeBegin_any _ v fb ordLE c x (HF.out k)).mono (fun e w' h => ⟨h.1, h.2.symm⟩)
  clear hs hn h hi
  cases hco : inF x pc with
  | true =>
    rw [hco] at HC
    have hd : decide (pc < x.start + x.size) = true := by unfold inF at hco; simp at hco ⊢; omega
    rw [hd]
    clear hco hd
    go_enter Tryz.func43, Tryz.ntmps43
    go_wp2_with fail
    go_quiet ((go_at_call 44; refine Calls.quiet_of (HC.out _)))
    go_wp2
    go_ret
    exact ⟨rfl, _, rfl⟩
  | false =>
    rw [hco] at HC
    have hd : decide (pc ≤ x.start) = decide (pc < x.start + x.size) := by unfold inF at hco; simp at hco; apply decide_eq_decide.2; omega
    have HD := Lib.hid hd
    clear hco hd
    go_enter Tryz.func43, Tryz.ntmps43
    go_wp2_with fail
    go_quiet ((first | (go_at_call 44; refine Calls.quiet_of (HC.out _)) | (go_at_call 29; refine Calls.quiet_of_same (HB.out _))))
    go_wp2
    go_ret
    exact ⟨by rw [HD.out]; rfl, _, rfl⟩

end Go.Proofs.YtahohmdfllgedaaGreat

namespace Go.Proofs.YtahohmdfllgedaaGreat.Gs

/-- A fact, hidden from the walk. -/
structure Asd (p : Prop) : Prop where
  out : p

set_option maxRecDepth 100000 in
set_option maxHeartbeats 4000000 in
theorem Search_I (I : World → Prop) (n : Nat) (cb : Array Value) (p : Nat → Bool) (w : World) (hI : I w) (hsz : n < 4611686018427387904)
    (hf : ∀ i, i < n → ∀ w', I w' → Calls Tryz.prog 43 (#[.int .i64 (i : Int)] ++ cb) w' fun e w'' => e = .returned (.bool (p i)) ∧ I w'') (hmono : ∀ a b, a ≤ b → b < n → p a = true → p b = true) :
    Calls Tryz.prog 42 #[.int .i64 (n : Int), .func (.func 43) #[] cb] w fun e w' => ∃ k : Nat, e = .returned (.int .i64 k) ∧ k ≤ n ∧ (∀ t, t < k → p t = false) ∧ (∀ t, k ≤ t → t < n → p t = true) ∧ I w' := by
  have HF : Asd _ := ⟨hf⟩
  have M : Asd _ := ⟨hmono⟩
  have HI : Asd _ := ⟨hI⟩
  clear hf hmono hI
  go_enter Tryz.func42, Tryz.ntmps42
  go_wp2
  go_loopg [5, 6] n (fun kx s5 s6 wr => ∃ (lo hi : Nat), s5 = .int .i64 lo ∧ s6 = .int .i64 hi ∧ lo ≤ hi ∧ hi ≤ n ∧ hi - lo ≤ kx ∧ Asd (I wr ∧ (∀ t, t < lo → p t = false) ∧ (∀ t, hi ≤ t → t < n → p t = true)))
  case atStart => exact ⟨0, n, rfl, rfl, Nat.zero_le _, Nat.le_refl _, by omega, ⟨HI.out, fun t ht => absurd ht (Nat.not_lt_zero _), fun t h1 h2 => by omega⟩⟩
  case round =>
    obtain ⟨lo, hi, rfl, rfl, hlh, hin, hg, J⟩ := hrel
    by_cases hlt : lo < hi
    · have hc := HF.out ((lo + hi) / 2) (by omega) wr J.out.1
      rw [show (((lo + hi) / 2 : Nat) : Int) = ((lo : Int) + (hi : Int)) / 2 by omega] at hc
      cases hp : p ((lo + hi) / 2) <;> rw [hp] at hc
      · have HP : Asd (p ((lo + hi) / 2) = false) := ⟨hp⟩
        clear hp
        have HC : Asd _ := ⟨hc⟩
        clear hc
        go_wp2_with (fail)
        refine HC.out.mono ?_
        rintro e w' ⟨rfl, hi'⟩
        have HI' : Asd _ := ⟨hi'⟩
        clear hi' HC
        go_wp2
        go_roundg (hi - ((lo + hi) / 2 + 1))
        case measure => omega
        case rel =>
          have I2 : Asd (I w' ∧ (∀ t, t < (lo + hi) / 2 + 1 → p t = false) ∧ (∀ t, hi ≤ t → t < n → p t = true)) := ⟨HI'.out, fun t ht => (by
            cases h : p t with
            | false => rfl
            | true => have := M.out t ((lo + hi) / 2) (by omega) (by omega) h; rw [HP.out] at this; cases this), J.out.2.2⟩
          exact ⟨(lo + hi) / 2 + 1, hi, by rw [show ((lo : Int) + (hi : Int)) / 2 + 1 = (((lo + hi) / 2 + 1 : Nat) : Int) by omega], rfl, by omega, hin, Nat.le_refl _, I2⟩
      · have HP : Asd (p ((lo + hi) / 2) = true) := ⟨hp⟩
        clear hp
        have HC : Asd _ := ⟨hc⟩
        clear hc
        go_wp2_with (fail)
        refine HC.out.mono ?_
        rintro e w' ⟨rfl, hi'⟩
        have HI' : Asd _ := ⟨hi'⟩
        clear hi' HC
        go_wp2
        go_roundg ((lo + hi) / 2 - lo)
        case measure => omega
        case rel =>
          have I2 : Asd (I w' ∧ (∀ t, t < lo → p t = false) ∧ (∀ t, (lo + hi) / 2 ≤ t → t < n → p t = true)) := ⟨HI'.out, J.out.2.1, fun t ht htn => M.out ((lo + hi) / 2) t ht htn HP.out⟩
          exact ⟨lo, (lo + hi) / 2, rfl, by rw [show ((lo : Int) + (hi : Int)) / 2 = (((lo + hi) / 2 : Nat) : Int) by omega], by omega, by omega, Nat.le_refl _, I2⟩
    · obtain rfl : hi = lo := by omega
      go_wp2
      go_ret
      exact ⟨hi, rfl, hin, J.out.2.1, J.out.2.2, J.out.1⟩
end Go.Proofs.YtahohmdfllgedaaGreat.Gs

namespace Go.Proofs.YtahohmdfllgedaaGreat
open Go.RowKit

/-- What FDEForPC leaves. -/
def FOut (w : World) (X : List LFrame) (ptrs : List Nat) (pc : Nat) (e : Ending) (w' : World) : Prop :=
  Fr [] w w' ∧ ((∃ (k : Nat) (x : LFrame) (fb : Nat), X[k]? = some x ∧ ptrs[k]? = some fb ∧ inF x pc = true ∧ e = .returned (.tuple #[ptrV fb, .nilIface])) ∨
    ((∀ x ∈ X, inF x pc = false) ∧ ∃ t v, e = .returned (.tuple #[.pointer none, .iface t v])))

def atEnd (X : List (LCommon × LFrame)) (pc : Nat) (i : Nat) : Bool := match X[i]? with | some q => decide (pc < q.2.start + q.2.size) | none => true
theorem none_in {X : List (LCommon × LFrame)} {pc k : Nat} (hlo : ∀ t, t < k → atEnd X pc t = false) (hap : ∀ (i j : Nat) (p q : LCommon × LFrame), i < j → X[i]? = some p → X[j]? = some q → p.2.start + p.2.size ≤ q.2.start)
    (hk : X.length ≤ k ∨ ∃ c x, X[k]? = some (c, x) ∧ inF x pc = false ∧ atEnd X pc k = true) : ∀ y ∈ X.map (·.2), inF y pc = false := by
  intro y hy
  obtain ⟨q, hq, rfl⟩ := List.mem_map.1 hy
  obtain ⟨i, hi, rfl⟩ := List.getElem_of_mem hq
  have hlt : ∀ j, j < k → (hj : j < X.length) → X[j].2.start + X[j].2.size ≤ pc := fun j h1 h2 => by
    have := hlo j h1
    simp only [atEnd, List.getElem?_eq_getElem h2, decide_eq_false_iff_not] at this
    omega
  unfold inF
  rw [decide_eq_false_iff_not]
  rcases Nat.lt_or_ge i k with h | h
  · have := hlt i h hi; omega
  · rcases hk with hk | ⟨c, x, hx, hf, he⟩
    · omega
    · simp only [atEnd, hx, decide_eq_true_eq] at he
      unfold inF at hf
      rw [decide_eq_false_iff_not] at hf
      rcases Nat.lt_or_ge k i with h2 | h2
      · have := hap k i _ _ h2 hx (List.getElem?_eq_getElem hi); simp only at this; omega
      · obtain rfl : i = k := by omega
        rw [List.getElem?_eq_getElem hi] at hx
        have hx := Option.some.inj hx
        rw [hx]; exact hf

set_option maxRecDepth 100000 in
set_option maxHeartbeats 4000000 in
theorem FDEForPC_any (w : World) (v : Value) (pc : Nat) (a : Option Addr) (n cp : Nat) (ptrs : List Nat) (X : List (LCommon × LFrame)) (hs : Sl w (.slice a n cp) (ptrs.map ptrV)) (hn : ptrs.length = n) (hX : X.length = n) (hnl : n ≤ 1099511627776)
    (h : ∀ (i fb : Nat) (c : LCommon) (x : LFrame), ptrs[i]? = some fb → X[i]? = some (c, x) → FdeAt w v fb ordLE c x) (hb : ∀ p ∈ X, ¬ p.2.size = 0 ∧ p.2.start ≤ 1099511627776 ∧ p.2.size ≤ 1048576)
    (hap : ∀ (i j : Nat) (p q : LCommon × LFrame), i < j → X[i]? = some p → X[j]? = some q → p.2.start + p.2.size ≤ q.2.start) (hp : pc < 18446744073709551616) :
    Calls Tryz.prog 25 #[.slice a n cp, .int .u64 (pc : Int)] w (FOut w (X.map (·.2)) ptrs pc) := by
  have hmf : ∀ (fn : Fn) (first cap : Array Value) (w : World), (Instr.makeFunc fn first cap).run Tryz.prog w = .ok (.func fn first cap) w := fun _ _ _ _ => rfl
  obtain ⟨w1, hw1⟩ : ∃ w1, (w.alloc (.cells #[.slice a n cp] 63)).alloc (.cells #[.int .u64 (pc : Int)] 23) = w1 := ⟨_, rfl⟩
  have F1 : Hid (Fr [] w w1) := by rw [← hw1]; exact ((Fr.refl _ _).alloc _).alloc _
  have B0 : Hid (w1.heap[w.heap.size]? = some (.cells #[.slice a n cp] 63 (0, 0))) := by rw [← hw1]; exact blk_alloc (blk_new w _)
  have B1 : Hid (w1.heap[w.heap.size + 1]? = some (.cells #[.int .u64 (pc : Int)] 23 (0, 0))) := by
    have h := blk_new (w.alloc (.cells #[.slice a n cp] 63)) (.cells #[.int .u64 (pc : Int)] 23)
    rw [World.size_alloc, hw1] at h; exact h
  have Hn := Lib.hid hn
  have HX := Lib.hid hX
  have Hs := Lib.hid hs
  have Hb := Lib.hid hb
  have Hap := Lib.hid hap
  have Hh := Lib.hid h
  obtain ⟨p, hpd⟩ : ∃ p : Nat → Bool, p = atEnd X pc := ⟨_, rfl⟩
  have HP := Lib.hid hpd
  have HC : Hid (∀ i, i < n → ∀ w', Fr [] w1 w' → Calls Tryz.prog 43 (#[.int .i64 (i : Int)] ++ #[.pointer (some ⟨w.heap.size, 0, none⟩), .pointer (some ⟨w.heap.size + 1, 0, none⟩)]) w' fun e w'' => e = .returned (.bool (p i)) ∧ Fr [] w1 w'') := fun i hi w' f => by
    have hi1 : i < ptrs.length := by omega
    have hi2 : i < X.length := by omega
    have f' := F1.out.then f
    have hbb := hb X[i] (List.getElem_mem hi2)
    refine (FDEForPC1_any w' v w.heap.size (w.heap.size + 1) i pc a n cp ptrs X[i].1 X[i].2 hi1 (hs.fr f' (by simp)) hn hnl ((h i ptrs[i] X[i].1 X[i].2 (List.getElem?_eq_getElem hi1) (List.getElem?_eq_getElem hi2)).idle f') hbb.1 hbb.2.1 hbb.2.2 hp (by rw [blk_cell (f.get B0.out (by simp))]; rfl) (by rw [blk_cell (f.get B1.out (by simp))]; rfl)).mono ?_
    rintro e w'' ⟨rfl, k, rfl⟩
    refine ⟨?_, f.then (Fr.drewN (Fr.refl [] w') k)⟩
    rw [hpd]; simp only [atEnd, List.getElem?_eq_getElem hi2]
  have HM : Hid (∀ x y, x ≤ y → y < n → p x = true → p y = true) := fun x y hxy hy hpx => by
    have hx2 : x < X.length := by omega
    have hy2 : y < X.length := by omega
    rw [hpd] at hpx ⊢
    simp only [atEnd, List.getElem?_eq_getElem hx2, List.getElem?_eq_getElem hy2, decide_eq_true_eq] at hpx ⊢
    rcases Nat.lt_or_ge x y with hlt | hge
    · have := hap x y _ _ hlt (List.getElem?_eq_getElem hx2) (List.getElem?_eq_getElem hy2); omega
    · obtain rfl : x = y := by omega
      exact hpx
  have HS : Hid (Calls Tryz.prog 42 #[.int .i64 (n : Int), .func (.func 43) #[] #[.pointer (some ⟨w.heap.size, 0, none⟩), .pointer (some ⟨w.heap.size + 1, 0, none⟩)]] w1 fun e w' => ∃ k : Nat, e = .returned (.int .i64 k) ∧ k ≤ n ∧ (∀ t, t < k → p t = false) ∧ (∀ t, k ≤ t → t < n → p t = true) ∧ Fr [] w1 w') :=
    Gs.Search_I (Fr [] w1) n _ p w1 (Fr.refl _ _) (by omega) HC.out HM.out
  have b0 : w1.cell? ⟨w.heap.size, 0, none⟩ = some (.slice a n cp) := by rw [blk_cell B0.out]; rfl
  clear hn hX hs hb hap h hpd HC HM
  go_enter Tryz.func25, Tryz.ntmps25
  go_upto_region 1 with fail
  clear hw1
  go_upto_region 2 with (go_at_call 42; go_must (refine HS.out.mono ?_); rintro e w2 ⟨k, rfl, hkn, hlo, hhi, hf2⟩; have F2 := Lib.hid hf2; have HLo := Lib.hid hlo; have HHi := Lib.hid hhi; clear hf2 hlo hhi)
  have b2 : w2.cell? ⟨w.heap.size, 0, none⟩ = some (.slice a n cp) := by rw [blk_cell (F2.out.get B0.out (by simp))]; rfl
  have p2 : w2.cell? ⟨w.heap.size + 1, 0, none⟩ = some (.int .u64 (pc : Int)) := by rw [blk_cell (F2.out.get B1.out (by simp))]; rfl
  clear b0
  have F12 := Lib.hid (F1.out.then F2.out)
  by_cases hk : k < n
  · have hk1 : k < ptrs.length := by have := Hn.out; omega
    have hk2 : k < X.length := by have := HX.out; omega
    obtain ⟨g, o, rfl, hc⟩ := ptr_at Hs.out F12.out k hk1
    obtain ⟨fb, hfb⟩ : ∃ fb, ptrs[k] = fb := ⟨_, rfl⟩
    have hfb2 : ptrs[k]? = some fb := by rw [List.getElem?_eq_getElem hk1, hfb]
    obtain ⟨⟨c, x⟩, hx⟩ : ∃ q, X[k] = q := ⟨_, rfl⟩
    have hx2 : X[k]? = some (c, x) := by rw [List.getElem?_eq_getElem hk2, hx]
    have hbb := Hb.out (c, x) (by rw [← hx]; exact List.getElem_mem hk2)
    rw [hfb] at hc
    have HFB := Lib.hid hfb2
    have HXK := Lib.hid hx2
    have HCV : Hid (∀ m, Calls Tryz.prog 44 #[ptrV fb, .int .u64 (pc : Int)] (w2.drewN m) fun e w' => e = .returned (.bool (inF x pc)) ∧ ∃ q, w' = (w2.drewN m).drewN q) := fun m => Cover_any _ v fb pc ordLE c x ((Hh.out k fb c x hfb2 hx2).idle (F12.out.then (Fr.drewN (Fr.refl [] w2) m))) hbb.2.1 hbb.2.2 hp
    have e1 : ((k : Int) == (n : Int)) = false := by rw [beq_eq_false_iff_ne]; omega
    clear hfb hx hfb2 hx2 hbb hk1 hk2
    cases hin : inF x pc with
    | true =>
      rw [hin] at HCV
      have HI := Lib.hid hin
      clear hin
      go_wp2_with fail
      go_quiet ((go_at_call 44; refine Calls.quiet_of (HCV.out _)))
      go_wp2_with fail
      go_ret2
      refine ⟨F12.out.then (Fr.drewN (Fr.refl [] w2) _), .inl ⟨k, x, fb, ?_, HFB.out, HI.out, rfl⟩⟩
      rw [List.getElem?_map, HXK.out]; rfl
    | false =>
      rw [hin] at HCV
      have HI := Lib.hid hin
      clear hin
      go_wp2_with fail
      go_quiet ((go_at_call 44; refine Calls.quiet_of (HCV.out _)))
      go_wp2_with fail
      have p3 : ∀ q, (w2.drewN q).cell? ⟨w.heap.size + 1, 0, none⟩ = some (.int .u64 (pc : Int)) := fun q => p2
      have HNI := Lib.hid (none_in (X := X) (pc := pc) (k := k) (by have := HLo.out; rw [HP.out] at this; exact this) Hap.out (.inr ⟨c, x, HXK.out, HI.out, by have := HHi.out k (Nat.le_refl _) hk; rw [HP.out] at this; exact this⟩))
      clear p2 b2
      go_region
      all_goals
        go_wp2_with fail
        go_ret2
        exact ⟨by repeat (first | exact F12.out | refine Fr.drewN ?_ _ | refine Fr.drew ?_ | refine Fr.alloc ?_ _), .inr ⟨HNI.out, _, _, rfl⟩⟩
  · obtain rfl : k = n := by omega
    have e1 : ((k : Int) == (k : Int)) = true := beq_self_eq_true _
    go_wp2_with fail
    go_quiet (fail)
    go_wp2_with fail
    have p3 : ∀ q, (w2.drewN q).cell? ⟨w.heap.size + 1, 0, none⟩ = some (.int .u64 (pc : Int)) := fun q => p2
    have HNI := Lib.hid (none_in (X := X) (pc := pc) (k := k) (by have := HLo.out; rw [HP.out] at this; exact this) Hap.out (.inl (by have := HX.out; omega)))
    clear p2 b2
    go_region
    all_goals
      go_wp2_with fail
      go_ret2
      exact ⟨by repeat (first | exact F12.out | refine Fr.drewN ?_ _ | refine Fr.drew ?_ | refine Fr.alloc ?_ _), .inr ⟨HNI.out, _, _, rfl⟩⟩
end Go.Proofs.YtahohmdfllgedaaGreat

namespace Go.Proofs.YtahohmdfllgedaaGreat
open Go.RowKit

/-- A rule: its kind, a register, a number, an expression. -/
structure LRule where
  kind : Int
  reg : Int
  n : Int
  expr : List UInt8
abbrev LMap := Int → Option LRule
/-- Rules at a place: the frame address', and those of registers. -/
structure LTab where
  cfa : LRule
  rules : LMap
/-- A machine's state: the table, and those that have been put aside (the last one last). -/
abbrev LSta := LTab × List LTab

def lput (m : LMap) (k : Int) (r : LRule) : LMap := fun j => if j = k then some r else m j
def LTab.put (t : LTab) (k : Int) (r : LRule) : LTab := ⟨t.cfa, lput t.rules k r⟩
def LTab.setCfa (t : LTab) (r : LRule) : LTab := ⟨r, t.rules⟩
def rul0 : LRule := ⟨0, 0, 0, []⟩
def tab0 : LTab := ⟨rul0, fun _ => none⟩
/-- The table put aside last. -/
def popT (s : LSta) : Option LSta := match s.2.getLast? with | none => none | some u => some (u, s.2.dropLast)

/-- The reference: an instruction that does not change the place. -/
def sCall (off : Int) (x : LCall) (s : LSta) : Option LSta :=
  if x.op = 0 then some s
  else if x.op = 128 ∨ x.op = 5 ∨ x.op = 17 then some (s.1.put x.a ⟨2, 0, x.b * off, []⟩, s.2)
  else if x.op = 20 ∨ x.op = 21 then some (s.1.put x.a ⟨3, 0, x.b * off, []⟩, s.2)
  else if x.op = 7 then some (s.1.put x.a ⟨0, 0, 0, []⟩, s.2)
  else if x.op = 8 then some (s.1.put x.a ⟨1, 0, 0, []⟩, s.2)
  else if x.op = 9 then some (s.1.put x.a ⟨4, x.b, 0, []⟩, s.2)
  else if x.op = 16 then some (s.1.put x.a ⟨5, 0, 0, x.data⟩, s.2)
  else if x.op = 22 then some (s.1.put x.a ⟨6, 0, 0, x.data⟩, s.2)
  else if x.op = 10 then some (s.1, s.2 ++ [s.1])
  else if x.op = 11 then popT s
  else if x.op = 12 then some (s.1.setCfa ⟨7, x.a, x.b, []⟩, s.2)
  else if x.op = 18 then some (s.1.setCfa ⟨7, x.a, x.b * off, []⟩, s.2)
  else if x.op = 13 ∨ x.op = 14 ∨ x.op = 19 then
    if s.1.cfa.kind = 7 then some (s.1.setCfa (if x.op = 13 then { s.1.cfa with reg := x.a } else if x.op = 14 then { s.1.cfa with n := x.a } else { s.1.cfa with n := x.a * off }), s.2)
    else none
  else if x.op = 15 then some (s.1.setCfa ⟨5, 0, 0, x.data⟩, s.2)
  else none

/-- The package: an instruction that does not change the place; none: it panics. -/
def iCall (off : Int) (x : LCall) (s : LSta) : Option LSta :=
  if x.op = 128 ∨ x.op = 5 ∨ x.op = 17 then some (s.1.put x.a ⟨2, 0, x.b * off, []⟩, s.2)
  else if x.op = 21 then some (s.1.put x.a ⟨3, 0, x.b * off, []⟩, s.2)
  else if x.op = 192 ∨ x.op = 6 ∨ x.op = 7 then some (s.1.put x.a ⟨0, 0, 0, []⟩, s.2)
  else if x.op = 8 then some (s.1.put x.a ⟨1, 0, 0, []⟩, s.2)
  else if x.op = 9 then some (s.1.put x.a ⟨4, x.b, 0, []⟩, s.2)
  else if x.op = 16 then some (s.1.put x.a ⟨5, 0, 0, x.data⟩, s.2)
  else if x.op = 22 then some (s.1.put x.a ⟨6, 0, 0, x.data⟩, s.2)
  else if x.op = 10 then some (s.1, s.2 ++ [s.1])
  else if x.op = 11 then popT s
  else if x.op = 12 then some (s.1.setCfa ⟨8, x.a, x.b, s.1.cfa.expr⟩, s.2)
  else if x.op = 18 then some (s.1.setCfa ⟨8, x.a, x.b * off, s.1.cfa.expr⟩, s.2)
  else if x.op = 13 then some (s.1.setCfa { s.1.cfa with reg := x.a }, s.2)
  else if x.op = 14 then some (s.1.setCfa { s.1.cfa with n := x.a }, s.2)
  else if x.op = 19 then some (s.1.setCfa { s.1.cfa with n := x.a * off }, s.2)
  else if x.op = 15 then some (s.1.setCfa { s.1.cfa with kind := 5, expr := x.data }, s.2)
  else some s

/-- Where an instruction that changes the place leads. -/
def nextLoc (code : Nat) (x : LCall) (loc : Nat) : Nat := if x.op = 1 then u64of x.a else loc + code * x.a.toNat

def sRun (off : Int) : List LCall → LSta → Option LSta
  | [], s => some s
  | x :: xs, s => (sCall off x s).bind (sRun off xs)
def iRun (off : Int) : List LCall → LSta → Option LSta
  | [], s => some s
  | x :: xs, s => (iCall off x s).bind (iRun off xs)
/-- A frame's instructions up to a place. -/
def sFde (code : Nat) (off : Int) (pc : Nat) : Nat → List LCall → LSta → Option LSta
  | _, [], s => some s
  | loc, x :: xs, s =>
    if movesB x.op then
      if x.op = 1 ∧ nextLoc code x loc ≤ loc then none
      else if pc < nextLoc code x loc then some s
      else sFde code off pc (nextLoc code x loc) xs s
    else (sCall off x s).bind (sFde code off pc loc xs)
def iFde (code : Nat) (off : Int) (pc : Nat) : Nat → List LCall → LSta → Option LSta
  | _, [], s => some s
  | loc, x :: xs, s =>
    if pc < loc then some s
    else if movesB x.op then iFde code off pc (nextLoc code x loc) xs s
    else (iCall off x s).bind (iFde code off pc loc xs)

/-- spec.Rules. -/
def sRules (c : LCommon) (f : LFrame) (pc : Nat) : Option LTab :=
  if pc < f.start ∨ f.start + f.size ≤ pc then none
  else ((sRun c.offset c.calls (tab0, [])).bind fun s => sFde c.code c.offset pc f.start f.calls s).map (·.1)
/-- The frame that the package establishes. -/
def iRules (c : LCommon) (f : LFrame) (pc : Nat) : Option LTab :=
  ((iRun c.offset c.calls (tab0, [])).bind fun s => iFde c.code c.offset pc f.start f.calls s).map (·.1)

/-- The frame address' rule, said by the reference and by the package. -/
def CfaR (a b : LRule) : Prop := a.kind = 0 ∨ (a.kind = 7 ∧ b.kind = 8 ∧ b.reg = a.reg ∧ b.n = a.n) ∨ (a.kind = 5 ∧ b.kind = 5 ∧ b.expr = a.expr)
def TabR (a b : LTab) : Prop := CfaR a.cfa b.cfa ∧ a.rules = b.rules
inductive KeptR : List LTab → List LTab → Prop
  | nil : KeptR [] []
  | snoc {k k' : List LTab} {t t' : LTab} : KeptR k k' → TabR t t' → KeptR (k ++ [t]) (k' ++ [t'])
def StaR (a b : LSta) : Prop := TabR a.1 b.1 ∧ KeptR a.2 b.2

theorem StaR.start : StaR (tab0, []) (tab0, []) := ⟨⟨.inl rfl, rfl⟩, .nil⟩
theorem KeptR.pop {k k' : List LTab} {u : LTab} (h : KeptR k k') (hu : k.getLast? = some u) : ∃ u', k'.getLast? = some u' ∧ TabR u u' ∧ KeptR k.dropLast k'.dropLast := by
  cases h with
  | nil => simp at hu
  | snoc h1 h2 =>
    rw [List.getLast?_concat] at hu
    obtain rfl := Option.some.inj hu
    exact ⟨_, List.getLast?_concat, h2, by simpa using h1⟩

theorem StaR.put {s i : LSta} (h : StaR s i) (k : Int) (r : LRule) : StaR (s.1.put k r, s.2) (i.1.put k r, i.2) := ⟨⟨h.1.1, by simp only [LTab.put, h.1.2]⟩, h.2⟩
theorem StaR.cfa {s i : LSta} (h : StaR s i) {a b : LRule} (hc : CfaR a b) : StaR (s.1.setCfa a, s.2) (i.1.setCfa b, i.2) := ⟨⟨hc, h.1.2⟩, h.2⟩

set_option maxHeartbeats 2000000 in
theorem call_sim (off : Int) (x : LCall) {s i s' : LSta} (h : StaR s i) (h20 : x.op ≠ 20) (hs : sCall off x s = some s') : ∃ i', iCall off x i = some i' ∧ StaR s' i' := by
  unfold sCall at hs
  by_cases h0 : x.op = 0
  · rw [if_pos h0] at hs
    obtain rfl := Option.some.inj hs
    exact ⟨i, by unfold iCall; rw [if_neg (by omega), if_neg (by omega), if_neg (by omega), if_neg (by omega), if_neg (by omega), if_neg (by omega), if_neg (by omega), if_neg (by omega), if_neg (by omega), if_neg (by omega), if_neg (by omega), if_neg (by omega), if_neg (by omega), if_neg (by omega), if_neg (by omega)], h⟩
  rw [if_neg h0] at hs
  by_cases h1 : x.op = 128 ∨ x.op = 5 ∨ x.op = 17
  · rw [if_pos h1] at hs
    obtain rfl := Option.some.inj hs
    exact ⟨_, by unfold iCall; rw [if_pos (by omega)], h.put _ _⟩
  rw [if_neg h1] at hs
  by_cases h2 : x.op = 20 ∨ x.op = 21
  · rw [if_pos h2] at hs
    obtain rfl := Option.some.inj hs
    exact ⟨_, by unfold iCall; rw [if_neg (by omega), if_pos (by omega)], h.put _ _⟩
  rw [if_neg h2] at hs
  by_cases h3 : x.op = 7
  · rw [if_pos h3] at hs
    obtain rfl := Option.some.inj hs
    exact ⟨_, by unfold iCall; rw [if_neg (by omega), if_neg (by omega), if_pos (by omega)], h.put _ _⟩
  rw [if_neg h3] at hs
  by_cases h4 : x.op = 8
  · rw [if_pos h4] at hs
    obtain rfl := Option.some.inj hs
    exact ⟨_, by unfold iCall; rw [if_neg (by omega), if_neg (by omega), if_neg (by omega), if_pos (by omega)], h.put _ _⟩
  rw [if_neg h4] at hs
  by_cases h5 : x.op = 9
  · rw [if_pos h5] at hs
    obtain rfl := Option.some.inj hs
    exact ⟨_, by unfold iCall; rw [if_neg (by omega), if_neg (by omega), if_neg (by omega), if_neg (by omega), if_pos (by omega)], h.put _ _⟩
  rw [if_neg h5] at hs
  by_cases h6 : x.op = 16
  · rw [if_pos h6] at hs
    obtain rfl := Option.some.inj hs
    exact ⟨_, by unfold iCall; rw [if_neg (by omega), if_neg (by omega), if_neg (by omega), if_neg (by omega), if_neg (by omega), if_pos (by omega)], h.put _ _⟩
  rw [if_neg h6] at hs
  by_cases h7 : x.op = 22
  · rw [if_pos h7] at hs
    obtain rfl := Option.some.inj hs
    exact ⟨_, by unfold iCall; rw [if_neg (by omega), if_neg (by omega), if_neg (by omega), if_neg (by omega), if_neg (by omega), if_neg (by omega), if_pos (by omega)], h.put _ _⟩
  rw [if_neg h7] at hs
  by_cases h8 : x.op = 10
  · rw [if_pos h8] at hs
    obtain rfl := Option.some.inj hs
    exact ⟨(i.1, i.2 ++ [i.1]), by unfold iCall; rw [if_neg (by omega), if_neg (by omega), if_neg (by omega), if_neg (by omega), if_neg (by omega), if_neg (by omega), if_neg (by omega), if_pos (by omega)], h.1, .snoc h.2 h.1⟩
  rw [if_neg h8] at hs
  by_cases h9 : x.op = 11
  · rw [if_pos h9] at hs
    unfold popT at hs
    cases hu : s.2.getLast? with
    | none => rw [hu] at hs; cases hs
    | some u =>
      rw [hu] at hs
      obtain rfl := Option.some.inj hs
      obtain ⟨u', hu', ht, hk⟩ := h.2.pop hu
      exact ⟨(u', i.2.dropLast), by unfold iCall; rw [if_neg (by omega), if_neg (by omega), if_neg (by omega), if_neg (by omega), if_neg (by omega), if_neg (by omega), if_neg (by omega), if_neg (by omega), if_pos (by omega)]; unfold popT; rw [hu'], ht, hk⟩
  rw [if_neg h9] at hs
  by_cases h10 : x.op = 12
  · rw [if_pos h10] at hs
    obtain rfl := Option.some.inj hs
    exact ⟨(i.1.setCfa ⟨8, x.a, x.b, i.1.cfa.expr⟩, i.2), by unfold iCall; rw [if_neg (by omega), if_neg (by omega), if_neg (by omega), if_neg (by omega), if_neg (by omega), if_neg (by omega), if_neg (by omega), if_neg (by omega), if_neg (by omega), if_pos (by omega)], h.cfa (.inr (.inl ⟨rfl, rfl, rfl, rfl⟩))⟩
  rw [if_neg h10] at hs
  by_cases h11 : x.op = 18
  · rw [if_pos h11] at hs
    obtain rfl := Option.some.inj hs
    exact ⟨(i.1.setCfa ⟨8, x.a, x.b * off, i.1.cfa.expr⟩, i.2), by unfold iCall; rw [if_neg (by omega), if_neg (by omega), if_neg (by omega), if_neg (by omega), if_neg (by omega), if_neg (by omega), if_neg (by omega), if_neg (by omega), if_neg (by omega), if_neg (by omega), if_pos (by omega)], h.cfa (.inr (.inl ⟨rfl, rfl, rfl, rfl⟩))⟩
  rw [if_neg h11] at hs
  by_cases h12 : x.op = 13 ∨ x.op = 14 ∨ x.op = 19
  · rw [if_pos h12] at hs
    by_cases h7 : s.1.cfa.kind = 7
    · rw [if_pos h7] at hs
      obtain rfl := Option.some.inj hs
      obtain ⟨q1, q2, q3⟩ : i.1.cfa.kind = 8 ∧ i.1.cfa.reg = s.1.cfa.reg ∧ i.1.cfa.n = s.1.cfa.n := by
        rcases h.1.1 with hq | hq | hq
        · omega
        · exact hq.2
        · omega
      by_cases e1 : x.op = 13
      · rw [if_pos e1]
        exact ⟨(i.1.setCfa { i.1.cfa with reg := x.a }, i.2), by unfold iCall; rw [if_neg (by omega), if_neg (by omega), if_neg (by omega), if_neg (by omega), if_neg (by omega), if_neg (by omega), if_neg (by omega), if_neg (by omega), if_neg (by omega), if_neg (by omega), if_neg (by omega), if_pos (by omega)], h.cfa (.inr (.inl ⟨h7, q1, rfl, q3⟩))⟩
      · rw [if_neg e1]
        by_cases e2 : x.op = 14
        · rw [if_pos e2]
          exact ⟨(i.1.setCfa { i.1.cfa with n := x.a }, i.2), by unfold iCall; rw [if_neg (by omega), if_neg (by omega), if_neg (by omega), if_neg (by omega), if_neg (by omega), if_neg (by omega), if_neg (by omega), if_neg (by omega), if_neg (by omega), if_neg (by omega), if_neg (by omega), if_neg (by omega), if_pos (by omega)], h.cfa (.inr (.inl ⟨h7, q1, q2, rfl⟩))⟩
        · rw [if_neg e2]
          exact ⟨(i.1.setCfa { i.1.cfa with n := x.a * off }, i.2), by unfold iCall; rw [if_neg (by omega), if_neg (by omega), if_neg (by omega), if_neg (by omega), if_neg (by omega), if_neg (by omega), if_neg (by omega), if_neg (by omega), if_neg (by omega), if_neg (by omega), if_neg (by omega), if_neg (by omega), if_neg (by omega), if_pos (by omega)], h.cfa (.inr (.inl ⟨h7, q1, q2, rfl⟩))⟩
    · rw [if_neg h7] at hs; cases hs
  rw [if_neg h12] at hs
  by_cases h13 : x.op = 15
  · rw [if_pos h13] at hs
    obtain rfl := Option.some.inj hs
    exact ⟨(i.1.setCfa { i.1.cfa with kind := 5, expr := x.data }, i.2), by unfold iCall; rw [if_neg (by omega), if_neg (by omega), if_neg (by omega), if_neg (by omega), if_neg (by omega), if_neg (by omega), if_neg (by omega), if_neg (by omega), if_neg (by omega), if_neg (by omega), if_neg (by omega), if_neg (by omega), if_neg (by omega), if_neg (by omega), if_pos (by omega)], h.cfa (.inr (.inr ⟨rfl, rfl, rfl⟩))⟩
  rw [if_neg h13] at hs
  cases hs

theorem run_sim (off : Int) (l : List LCall) : ∀ {s i s' : LSta}, StaR s i → (∀ x ∈ l, x.op ≠ 20) → sRun off l s = some s' → ∃ i', iRun off l i = some i' ∧ StaR s' i' := by
  induction l with
  | nil => intro s i s' h _ hs; obtain rfl := Option.some.inj hs; exact ⟨i, rfl, h⟩
  | cons x xs ih =>
    intro s i s' h h20 hs
    rw [sRun] at hs
    obtain ⟨s1, h1, h2⟩ := Option.bind_eq_some_iff.1 hs
    obtain ⟨i1, h3, h4⟩ := call_sim off x h (h20 x (by simp)) h1
    obtain ⟨i2, h5, h6⟩ := ih h4 (fun y hy => h20 y (by simp [hy])) h2
    exact ⟨i2, by rw [iRun, h3]; exact h5, h6⟩
theorem iFde_past (code : Nat) (off : Int) (pc loc : Nat) (l : List LCall) (s : LSta) (h : pc < loc) : iFde code off pc loc l s = some s := by
  cases l with
  | nil => rfl
  | cons x xs => rw [iFde, if_pos h]
theorem fde_sim (code : Nat) (off : Int) (pc : Nat) (l : List LCall) : ∀ {loc : Nat} {s i s' : LSta}, StaR s i → loc ≤ pc → (∀ x ∈ l, x.op ≠ 20) → sFde code off pc loc l s = some s' → ∃ i', iFde code off pc loc l i = some i' ∧ StaR s' i' := by
  induction l with
  | nil => intro loc s i s' h _ _ hs; obtain rfl := Option.some.inj hs; exact ⟨i, rfl, h⟩
  | cons x xs ih =>
    intro loc s i s' h hl h20 hs
    rw [sFde] at hs
    rw [iFde, if_neg (by omega)]
    split at hs
    · rename_i hm
      rw [if_pos hm]
      split at hs
      · cases hs
      split at hs
      · obtain rfl := Option.some.inj hs
        rename_i hp
        exact ⟨i, iFde_past _ _ _ _ _ _ hp, h⟩
      · exact ih h (by omega) (fun y hy => h20 y (by simp [hy])) hs
    · rename_i hm
      rw [if_neg hm]
      obtain ⟨s1, h1, h2⟩ := Option.bind_eq_some_iff.1 hs
      obtain ⟨i1, h3, h4⟩ := call_sim off x h (h20 x (by simp)) h1
      obtain ⟨i2, h5, h6⟩ := ih h4 hl (fun y hy => h20 y (by simp [hy])) h2
      exact ⟨i2, by rw [h3]; exact h5, h6⟩
/-- WHERE THE REFERENCE HAS RULES, THE PACKAGE HAS THE SAME. -/
theorem rules_sim {c : LCommon} {f : LFrame} {pc : Nat} {t : LTab} (hc : ∀ x ∈ c.calls, x.op ≠ 20) (hf : ∀ x ∈ f.calls, x.op ≠ 20) (h : sRules c f pc = some t) : ∃ t', iRules c f pc = some t' ∧ TabR t t' := by
  unfold sRules at h
  split at h
  · cases h
  rename_i hp
  obtain ⟨s, hs, rfl⟩ := Option.map_eq_some_iff.1 h
  obtain ⟨s1, h1, h2⟩ := Option.bind_eq_some_iff.1 hs
  obtain ⟨i1, h3, h4⟩ := run_sim c.offset c.calls StaR.start hc h1
  obtain ⟨i2, h5, h6⟩ := fde_sim c.code c.offset pc f.calls h4 (by omega) hf h2
  exact ⟨i2.1, by unfold iRules; rw [h3]; simp [h5], h6.1⟩
end Go.Proofs.YtahohmdfllgedaaGreat

namespace Go.Proofs.YtahohmdfllgedaaGreat
open Go.RowKit Go.MapKept

/-- Of a map's entries those that have been handed out, as a partial function. -/
def SeenF (es : Array MapEntry) (seen : Array Nat) (K : IntKind) (g : Int → Option Value) : Prop := ∀ n v, g n = some v ↔ ∃ x ∈ es.toList, seen.contains x.born = true ∧ x.key = .int K n ∧ x.val = v

theorem SeenF.nil (es : Array MapEntry) (K : IntKind) : SeenF es #[] K (fun _ => none) := fun n v => by simp
theorem stamped_born {es : Array MapEntry} {clock : Nat} (h : Stamped es clock) : (es.toList.map (·.born)).Nodup := h.2.1
theorem stamped_key {es : Array MapEntry} {clock : Nat} (h : Stamped es clock) : (es.toList.map (·.key)).Nodup := h.2.2
theorem key_inj {l : List MapEntry} (hn : (l.map (·.key)).Nodup) {x e : MapEntry} (hx : x ∈ l) (he : e ∈ l) (h : x.key = e.key) : x = e := by
  induction l with
  | nil => cases hx
  | cons y ys ih =>
    rw [List.map_cons, List.nodup_cons] at hn
    rcases List.mem_cons.1 hx with rfl | hx'
    · rcases List.mem_cons.1 he with rfl | he'
      · rfl
      · exact absurd (List.mem_map.2 ⟨e, he', h.symm⟩) hn.1
    · rcases List.mem_cons.1 he with rfl | he'
      · exact absurd (List.mem_map.2 ⟨x, hx', h⟩) hn.1
      · exact ih hn.2 hx' he'

theorem SeenF.push {es : Array MapEntry} {clock : Nat} {seen : Array Nat} {K : IntKind} {g : Int → Option Value} (h : SeenF es seen K g) (hs : Stamped es clock) {e : MapEntry} (he : e ∈ es.toList) {n : Int} (hk : e.key = .int K n) :
    SeenF es (seen.push e.born) K (upd g n e.val) := by
  intro m v
  unfold upd
  by_cases hm : m = n
  · subst hm
    rw [if_pos rfl]
    constructor
    · intro hv
      exact ⟨e, he, by rw [contains_push]; simp, hk, Option.some.inj hv⟩
    · rintro ⟨x, hx, -, hxk, rfl⟩
      rw [key_inj (stamped_key hs) hx he (hxk.trans hk.symm)]
  · rw [if_neg hm, h m v]
    constructor
    · rintro ⟨x, hx, h1, h2⟩
      exact ⟨x, hx, by rw [contains_push, h1]; rfl, h2⟩
    · rintro ⟨x, hx, h1, h2, h3⟩
      refine ⟨x, hx, ?_, h2, h3⟩
      rw [contains_push] at h1
      rcases Bool.or_eq_true_iff.1 h1 with h1 | h1
      · exact h1
      · have : x = e := born_inj (stamped_born hs) hx he (by simpa using h1)
        subst this
        rw [hk] at h2
        simp at h2
        exact absurd h2.symm hm
theorem SeenF.all {es : Array MapEntry} {seen : Array Nat} {K : IntKind} {f g : Int → Option Value} (h : SeenF es seen K g) (h0 : (leftOf es seen).size = 0) (hf : ∀ n v, f n = some v ↔ ∃ x ∈ es.toList, x.key = .int K n ∧ x.val = v) : g = f := by
  have ha := all_seen es seen h0
  funext n
  apply Option.ext
  intro v
  rw [h n v, hf n v]
  constructor
  · rintro ⟨x, hx, -, h2⟩; exact ⟨x, hx, h2⟩
  · rintro ⟨x, hx, h2⟩; exact ⟨x, hx, ha x hx, h2⟩

/-- The keys that have been handed out. -/
def SeenK (es : Array MapEntry) (seen : Array Nat) (K : IntKind) (ks : List Int) : Prop := ks.Nodup ∧ ks.length ≤ es.size ∧ ∀ n, n ∈ ks ↔ ∃ x ∈ es.toList, seen.contains x.born = true ∧ x.key = .int K n
theorem SeenK.nil (es : Array MapEntry) (K : IntKind) : SeenK es #[] K [] := ⟨List.nodup_nil, Nat.zero_le _, fun n => by simp⟩
theorem nodup_le {α : Type} [DecidableEq α] : ∀ {a b : List α}, a.Nodup → (∀ x ∈ a, x ∈ b) → a.length ≤ b.length
  | [], _, _, _ => Nat.zero_le _
  | x :: xs, b, hn, h => by
    rw [List.nodup_cons] at hn
    have hx := h x (by simp)
    have h2 := nodup_le (b := b.erase x) hn.2 (fun y hy => (List.mem_erase_of_ne (fun e : y = x => hn.1 (e ▸ hy))).2 (h y (by simp [hy])))
    have h3 := List.length_erase_of_mem hx
    have h4 : 0 < b.length := List.length_pos_of_mem hx
    simp only [List.length_cons]; omega
/-- The keys of a map's entries, as numbers. -/
def keysOf (es : Array MapEntry) : List Int := es.toList.map fun x => match x.key with | .int _ n => n | _ => 0
theorem keysOf_len (es : Array MapEntry) : (keysOf es).length = es.size := by simp [keysOf]
theorem keysOf_mem {es : Array MapEntry} {K : IntKind} (hk : ∀ x ∈ es.toList, IsKey (.int K) x.key) (n : Int) : n ∈ keysOf es ↔ ∃ x ∈ es.toList, x.key = .int K n := by
  unfold keysOf
  rw [List.mem_map]
  constructor
  · rintro ⟨x, hx, rfl⟩
    obtain ⟨m, hm⟩ := isKey_int (hk x hx)
    exact ⟨x, hx, by simp only [hm]⟩
  · rintro ⟨x, hx, h⟩
    exact ⟨x, hx, by simp only [h]⟩
theorem keysOf_nodup {es : Array MapEntry} {clock : Nat} {K : IntKind} (hs : Stamped es clock) (hk : ∀ x ∈ es.toList, IsKey (.int K) x.key) : (keysOf es).Nodup := by
  unfold keysOf
  have hn := stamped_key hs
  revert hk hn
  generalize es.toList = l
  induction l with
  | nil => intro _ _; exact List.nodup_nil
  | cons x xs ih =>
    intro hk hn
    rw [List.map_cons, List.nodup_cons] at hn ⊢
    refine ⟨fun hm => hn.1 ?_, ih (fun y hy => hk y (by simp [hy])) hn.2⟩
    obtain ⟨y, hy, he⟩ := List.mem_map.1 hm
    obtain ⟨a, ha⟩ := isKey_int (hk x (by simp))
    obtain ⟨b, hb⟩ := isKey_int (hk y (by simp [hy]))
    rw [ha, hb] at he
    simp only at he
    exact List.mem_map.2 ⟨y, hy, by rw [ha, hb, he]⟩
theorem SeenK.push {es : Array MapEntry} {clock : Nat} {seen : Array Nat} {K : IntKind} {ks : List Int} (h : SeenK es seen K ks) (hs : Stamped es clock) (hkk : ∀ x ∈ es.toList, IsKey (.int K) x.key) {e : MapEntry} (he : e ∈ es.toList) (hns : seen.contains e.born = false) {n : Int} (hk : e.key = .int K n) :
    SeenK es (seen.push e.born) K (ks ++ [n]) := by
  have hm : ∀ m, m ∈ ks ++ [n] ↔ ∃ x ∈ es.toList, (seen.push e.born).contains x.born = true ∧ x.key = .int K m := by
    intro m
    rw [List.mem_append, List.mem_singleton]
    constructor
    · rintro (hm | rfl)
      · obtain ⟨x, hx, h1, h2⟩ := (h.2.2 m).1 hm
        exact ⟨x, hx, by rw [contains_push, h1]; rfl, h2⟩
      · exact ⟨e, he, by rw [contains_push]; simp, hk⟩
    · rintro ⟨x, hx, h1, h2⟩
      rw [contains_push] at h1
      rcases Bool.or_eq_true_iff.1 h1 with h1 | h1
      · exact .inl ((h.2.2 m).2 ⟨x, hx, h1, h2⟩)
      · have : x = e := born_inj (stamped_born hs) hx he (by simpa using h1)
        subst this
        rw [hk] at h2
        simp at h2
        exact .inr h2.symm
  have hnd : (ks ++ [n]).Nodup := by
    rw [List.nodup_append]
    refine ⟨h.1, by simp, fun a ha b hb e1 => ?_⟩
    simp at hb
    subst hb; subst e1
    obtain ⟨x, hx, h1, h2⟩ := (h.2.2 a).1 ha
    have : x = e := key_inj (stamped_key hs) hx he (h2.trans hk.symm)
    subst this
    rw [hns] at h1; cases h1
  refine ⟨hnd, ?_, hm⟩
  rw [← keysOf_len es]
  exact nodup_le hnd (fun a ha => by
    obtain ⟨x, hx, -, h2⟩ := (hm a).1 ha
    exact (keysOf_mem hkk a).2 ⟨x, hx, h2⟩)
theorem SeenK.all {es : Array MapEntry} {clock : Nat} {seen : Array Nat} {K : IntKind} {ks : List Int} {f : Int → Option Value} (h : SeenK es seen K ks) (h0 : (leftOf es seen).size = 0) (hs : Stamped es clock) (hkk : ∀ x ∈ es.toList, IsKey (.int K) x.key) (hf : ∀ n v, f n = some v ↔ ∃ x ∈ es.toList, x.key = .int K n ∧ x.val = v) :
    ks.Nodup ∧ ks.length = es.size ∧ ∀ n, n ∈ ks ↔ (f n).isSome = true := by
  have ha := all_seen es seen h0
  have hm : ∀ n, n ∈ ks ↔ ∃ x ∈ es.toList, x.key = .int K n := fun n => by
    rw [h.2.2 n]
    constructor
    · rintro ⟨x, hx, -, h2⟩; exact ⟨x, hx, h2⟩
    · rintro ⟨x, hx, h2⟩; exact ⟨x, hx, ha x hx, h2⟩
  refine ⟨h.1, ?_, fun n => ?_⟩
  · have h1 := h.2.1
    have h2 := nodup_le (b := ks) (keysOf_nodup hs hkk) (fun a ha => by rw [hm]; exact (keysOf_mem hkk a).1 ha)
    rw [keysOf_len] at h2
    omega
  · rw [hm, Option.isSome_iff_exists]
    constructor
    · rintro ⟨x, hx, h2⟩; exact ⟨x.val, (hf n _).2 ⟨x, hx, h2, rfl⟩⟩
    · rintro ⟨v, hv⟩; obtain ⟨x, hx, h2, -⟩ := (hf n v).1 hv; exact ⟨x, hx, h2⟩

/-- How many entries a map has: as many as there are keys. -/
theorem MapIs.len {P : Program} {w : World} {b : Nat} {K : IntKind} {f : Int → Option Value} (h : MapIs w b K f) : ∃ es clock, w.heap[b]? = some (.map es clock) ∧ ∀ ks : List Int, ks.Nodup → (∀ n, n ∈ ks ↔ (f n).isSome = true) → ks.length = es.size := by
  obtain ⟨es, clock, hb, hs, hk, hf⟩ := h
  refine ⟨es, clock, hb, fun ks hn hm => ?_⟩
  have e : ∀ n, n ∈ ks ↔ n ∈ keysOf es := fun n => by
    rw [hm, keysOf_mem hk, Option.isSome_iff_exists]
    constructor
    · rintro ⟨v, hv⟩; obtain ⟨x, hx, h2, -⟩ := (hf n v).1 hv; exact ⟨x, hx, h2⟩
    · rintro ⟨x, hx, h2⟩; exact ⟨x.val, (hf n _).2 ⟨x, hx, h2, rfl⟩⟩
  have h1 := nodup_le hn (fun a ha => (e a).1 ha)
  have h2 := nodup_le (keysOf_nodup hs hk) (fun a ha => (e a).2 ha)
  rw [keysOf_len] at h1 h2
  omega
end Go.Proofs.YtahohmdfllgedaaGreat

namespace Go.Proofs.YtahohmdfllgedaaGreat
open Go.RowKit

abbrev ptrX (b : Nat) : Value := .pointer (some ⟨b, 0, none⟩)
theorem cells_ne {w : World} {a b : Nat} {c1 c2 : Array Value} {t1 t2 : TypeId} {z1 z2 : Nat × Nat} (h1 : w.heap[a]? = some (.cells c1 t1 z1)) (h2 : w.heap[b]? = some (.cells c2 t2 z2)) (ht : t1 ≠ t2) : a ≠ b := by
  rintro rfl; rw [h1] at h2; simp at h2; exact ht h2.2.1
theorem cmap_ne {w : World} {a b : Nat} {c1 : Array Value} {t1 : TypeId} {z1 : Nat × Nat} {K : IntKind} {f : Int → Option Value} (h1 : w.heap[a]? = some (.cells c1 t1 z1)) (h2 : MapIs w b K f) : a ≠ b := by
  obtain ⟨es, c, h2, _⟩ := h2
  rintro rfl; rw [h1] at h2; simp at h2
theorem own_cells {w : World} {base e s : Nat} {v : Value} {n : Nat} {vs : List Value} (h : w.ownsRow base e s v n vs) {g : Nat} (hg : v.ownBlock = some g) : ∃ cur, w.heap[g]? = some (.cells cur e (0, 0)) := by
  rcases h.2 with ⟨rfl, -⟩ | ⟨g', cap, cur, rfl, -, hh, -⟩
  · cases hg
  · simp [Value.ownBlock] at hg; subst hg; exact ⟨cur, hh⟩

/-- What does not turn while instructions are executed. -/
structure FK where
  pc : Nat
  ord : Value
  ib : Nat
  bb : Nat
  cb : Nat
  sb : Nat
  ret : Nat
  code : Nat
  dal : Int

/-- An expression's slice lies where xv lies, or is nil. -/
def ExV (w : World) (xv ev : Value) (l : List UInt8) : Prop := Sl w ev (vbs l) ∧ ∀ g, ev.ownBlock = some g → xv.ownBlock = some g
def ruleV (r : LRule) (ev : Value) : Value := .agg #[.int .u8 r.kind, .int .i64 r.n, .int .u64 r.reg, ev]
def RulR (w : World) (xv : Value) (r : LRule) (v : Value) : Prop := ∃ ev, v = ruleV r ev ∧ ExV w xv ev r.expr
/-- Block mb is a map that holds the rules m. -/
def MapR (w : World) (xv : Value) (mb : Nat) (m : LMap) : Prop := ∃ f, MapIs w mb .u64 f ∧ ∀ k, (m k = none ∧ f k = none) ∨ ∃ r v, m k = some r ∧ f k = some v ∧ RulR w xv r v

section
variable {w w' : World} {xv : Value} {bs : List Nat}
theorem ExV.nil (w : World) (xv : Value) : ExV w xv (.slice none 0 0) [] := ⟨.inl ⟨rfl, rfl⟩, by simp [Value.ownBlock]⟩
theorem ExV.fr {ev : Value} {l : List UInt8} (h : ExV w xv ev l) (f : Fr bs w w') (hx : ∀ g, xv.ownBlock = some g → g ∉ bs) : ExV w' xv ev l := ⟨h.1.fr f (fun g hg => hx g (h.2 g hg)), h.2⟩
theorem RulR.fr {r : LRule} {v : Value} (h : RulR w xv r v) (f : Fr bs w w') (hx : ∀ g, xv.ownBlock = some g → g ∉ bs) : RulR w' xv r v := by
  obtain ⟨ev, h1, h2⟩ := h; exact ⟨ev, h1, h2.fr f hx⟩
theorem MapR.fr {mb : Nat} {m : LMap} (h : MapR w xv mb m) (f : Fr bs w w') (hx : ∀ g, xv.ownBlock = some g → g ∉ bs) (hb : mb ∉ bs) : MapR w' xv mb m := by
  obtain ⟨g, h1, h2⟩ := h
  exact ⟨g, h1.fr f hb, fun k => (h2 k).imp id (fun ⟨r, v, a, b, c⟩ => ⟨r, v, a, b, c.fr f hx⟩)⟩
theorem MapR.put {mb : Nat} {m : LMap} {f : Int → Option Value} {k : Int} {r : LRule} {v : Value} (h1 : MapIs w' mb .u64 (upd f k v)) (h2 : ∀ k, (m k = none ∧ f k = none) ∨ ∃ r v, m k = some r ∧ f k = some v ∧ RulR w xv r v) (hf : Fr bs w w') (hx : ∀ g, xv.ownBlock = some g → g ∉ bs) (hr : RulR w' xv r v) : MapR w' xv mb (lput m k r) := by
  refine ⟨_, h1, fun j => ?_⟩
  unfold lput upd
  by_cases hj : j = k
  · rw [if_pos hj, if_pos hj]; exact .inr ⟨r, v, rfl, rfl, hr⟩
  · rw [if_neg hj, if_neg hj]; exact (h2 j).imp id (fun ⟨r, v, a, b, c⟩ => ⟨r, v, a, b, c.fr hf hx⟩)
theorem MapR.lt {mb : Nat} {m : LMap} (h : MapR w xv mb m) : mb < w.heap.size := by obtain ⟨g, h1, _⟩ := h; exact h1.lt
theorem MapR.cell_ne {a mb : Nat} {m : LMap} {c1 : Array Value} {t1 : TypeId} {z1 : Nat × Nat} (h1 : w.heap[a]? = some (.cells c1 t1 z1)) (h : MapR w xv mb m) : a ≠ mb := by obtain ⟨g, h2, _⟩ := h; exact cmap_ne h1 h2
end

/-- A table on the stack: the table, its frame address' expression, its map's block. -/
abbrev SQ := LTab × Value × Nat
def sqCells (q : SQ) : List Value := [.int .u8 q.1.cfa.kind, .int .i64 q.1.cfa.n, .int .u64 q.1.cfa.reg, q.2.1, .map (some q.2.2)]
def sqsCells (qs : List SQ) : List Value := qs.flatMap sqCells
theorem sqsCells_len (qs : List SQ) : (sqsCells qs).length = qs.length * 5 := by
  induction qs with
  | nil => rfl
  | cons q qs ih =>
    rw [show sqsCells (q :: qs) = sqCells q ++ sqsCells qs by simp [sqsCells], List.length_append, ih]; simp [sqCells]; omega
theorem sqsCells_app (a b : List SQ) : sqsCells (a ++ b) = sqsCells a ++ sqsCells b := by simp [sqsCells]
theorem sqsCells_get (qs : List SQ) : ∀ (i j : Nat) (h : i < qs.length), j < 5 → (sqsCells qs)[i * 5 + j]? = (sqCells qs[i])[j]? := by
  induction qs with
  | nil => intro i j h; simp at h
  | cons q qs ih =>
    intro i j h hj
    have e : sqsCells (q :: qs) = sqCells q ++ sqsCells qs := by simp [sqsCells]
    rw [e]
    cases i with
    | zero => rw [Nat.zero_mul, Nat.zero_add, List.getElem?_append_left (by simpa [sqCells] using hj)]; rfl
    | succ i =>
      rw [List.getElem?_append_right (by simp [sqCells]; omega)]
      have := ih i j (by simpa using h) hj
      have e2 : (i + 1) * 5 + j - (sqCells q).length = i * 5 + j := by simp [sqCells]; omega
      rw [e2, this]; rfl

def fcells (K : FK) (loc : Nat) (c : LRule) (ev : Value) (mb : Nat) : Array Value :=
  #[.int .u64 (loc : Int), K.ord, .int .u64 (K.pc : Int), .int .u8 c.kind, .int .i64 c.n, .int .u64 c.reg, ev, .map (some mb), .map (some K.ib), ptrX K.bb, ptrX K.cb, .int .u64 (K.ret : Int), .int .u64 (K.code : Int), .int .i64 K.dal, ptrX K.sb, .nilIface]

/-- All but the context's block and the buffer's place. -/
structure FO (w0 w : World) (K : FK) (mb : Nat) (ev sv : Value) (qs : List SQ) (xv v : Value) (s : LSta) (l : List UInt8) : Prop where
  ex : ExV w xv ev s.1.cfa.expr
  mp : MapR w xv mb s.1.rules
  ib : MapIs w K.ib .u64 (fun _ => none)
  st : w.heap[K.sb]? = some (.cells #[sv] 203 (0, 0))
  sr : w.ownsRow w0.heap.size 216 5 sv qs.length (sqsCells qs)
  sq : ∀ q ∈ qs, ExV w xv q.2.1 q.1.cfa.expr ∧ MapR w xv q.2.2 q.1.rules
  sk : qs.map (·.1) = s.2
  nd : (mb :: K.ib :: qs.map (·.2.2)).Nodup
  cb : ∃ cs, w.heap[K.cb]? = some (.cells cs 138 (0, 0)) ∧ cs[8]? = some (.int .u64 0)
  ow : w.ownsRow w0.heap.size 5 1 v l.length (vbs l)
  xo : ∀ g, xv.ownBlock = some g → v.ownBlock = some g
  gm : w0.heap.size ≤ mb
  gq : ∀ q ∈ qs, w0.heap.size ≤ q.2.2
  gs : w0.heap.size ≤ K.sb
  gb : w0.heap.size ≤ K.bb

/-- The machine: w0 the world at the start, K what does not turn, the place loc, the state s, off bytes of l read. -/
structure FX (w0 w : World) (fb : Nat) (K : FK) (mb : Nat) (ev sv : Value) (qs : List SQ) (xv v : Value) (loc : Nat) (s : LSta) (l : List UInt8) (off : Nat) (rd : Bool) : Prop where
  fc : w.heap[fb]? = some (.cells (fcells K loc s.1.cfa ev mb) 87 (0, 0))
  bf : BufR w K.bb v l off rd
  fo : FO w0 w K mb ev sv qs xv v s l
  fr : Fr [] w0 w
  gf : w0.heap.size ≤ fb

section
variable {w0 w w' : World} {fb : Nat} {K : FK} {mb : Nat} {ev sv : Value} {qs : List SQ} {xv v : Value} {loc : Nat} {s : LSta} {l : List UInt8} {off : Nat} {rd : Bool}

/-- What has only turned blocks of the context's and the buffer's types leaves the rest. -/
theorem FO.keep {bs : List Nat} (h : FO w0 w K mb ev sv qs xv v s l) (f : Fr bs w w') (hb : ∀ k ∈ bs, ∃ cs t z, w.heap[k]? = some (.cells cs t z) ∧ t ∉ [5, 216, 203, 138]) : FO w0 w' K mb ev sv qs xv v s l := by
  have ht : ∀ {k cs t z}, w.heap[k]? = some (.cells cs t z) → t ∈ [5, 216, 203, 138] → k ∉ bs := fun {k cs t z} hk h1 hm => by
    obtain ⟨cs', t', z', hk', ht'⟩ := hb k hm
    rw [hk] at hk'; simp only [Option.some.injEq, Obj.cells.injEq] at hk'
    exact ht' (hk'.2.1 ▸ h1)
  have hmp : ∀ {k K' g}, MapIs w k K' g → k ∉ bs := fun {k K' g} hk hm => by
    obtain ⟨cs', t', z', hk', -⟩ := hb k hm
    exact cmap_ne hk' hk rfl
  have hv : ∀ g, v.ownBlock = some g → g ∉ bs := fun g hg => by
    obtain ⟨cur, hc⟩ := own_cells h.ow hg
    exact ht hc (by decide)
  have hx : ∀ g, xv.ownBlock = some g → g ∉ bs := fun g hg => hv g (h.xo g hg)
  have hs : ∀ g, sv.ownBlock = some g → g ∉ bs := fun g hg => by
    obtain ⟨cur, hc⟩ := own_cells h.sr hg
    exact ht hc (by decide)
  have hr : ∀ {k m}, MapR w xv k m → k ∉ bs := fun {k m} hk => by obtain ⟨g, h1, -⟩ := hk; exact hmp h1
  obtain ⟨cs, hcb, hc8⟩ := h.cb
  exact ⟨h.ex.fr f hx, h.mp.fr f hx (hr h.mp), h.ib.fr f (hmp h.ib), f.get h.st (ht h.st (by decide)), own_fr h.sr f hs, fun q hq => ⟨(h.sq q hq).1.fr f hx, (h.sq q hq).2.fr f hx (hr (h.sq q hq).2)⟩, h.sk, h.nd,
    ⟨cs, f.get hcb (ht hcb (by decide)), hc8⟩, own_fr h.ow f hv, h.xo, h.gm, h.gq, h.gs, h.gb⟩

/-- Behind a call that reads the buffer. -/
theorem FX.call (h : FX w0 w fb K mb ev sv qs xv v loc s l off rd) {off' : Nat} {rd' : Bool} (hb : BufR w' K.bb v l off' rd') (hf : Fr [K.bb] w w') : FX w0 w' fb K mb ev sv qs xv v loc s l off' rd' := by
  have hne := cells_ne h.fc h.bf.1 (by decide)
  exact ⟨hf.get h.fc (by simpa using hne), hb, h.fo.keep hf (fun k hk => by simp at hk; subst hk; exact ⟨_, _, _, h.bf.1, by decide⟩), h.fr.trans hf (fun i hi hlt => by simp at hi; have := h.fo.gb; omega), h.gf⟩
/-- Where nothing old has turned. -/
theorem FX.idle (h : FX w0 w fb K mb ev sv qs xv v loc s l off rd) (hf : Fr [] w w') : FX w0 w' fb K mb ev sv qs xv v loc s l off rd :=
  ⟨hf.get h.fc (by simp), h.bf.fr hf (by simp) (by simp), h.fo.keep hf (by simp), h.fr.then hf, h.gf⟩
theorem FX.buf_ne (h : FX w0 w fb K mb ev sv qs xv v loc s l off rd) : K.bb ≠ fb := (cells_ne h.fc h.bf.1 (by decide)).symm
theorem FX.own_ne (h : FX w0 w fb K mb ev sv qs xv v loc s l off rd) : ∀ g, v.ownBlock = some g → g ≠ fb := fun g hg => by
  obtain ⟨cur, hc⟩ := own_cells h.fo.ow hg
  exact cells_ne hc h.fc (by decide)
/-- A store into the context's block that turns what FO does not look at. -/
theorem FX.store (h : FX w0 w fb K mb ev sv qs xv v loc s l off rd) (i : Nat) (u : Value) {loc' : Nat} (he : (fcells K loc s.1.cfa ev mb).setIfInBounds i u = fcells K loc' s.1.cfa ev mb) :
    FX w0 (w.setCell ⟨fb, i, none⟩ u) fb K mb ev sv qs xv v loc' s l off rd := by
  have hf : Fr [fb] w (w.setCell ⟨fb, i, none⟩ u) := (Fr.refl _ _).setCell (.inl (by simp)) _
  exact ⟨by rw [← he]; exact blk_set h.fc i u, h.bf.fr hf (by simpa using h.buf_ne) (fun g hg => by simpa using h.own_ne g hg), h.fo.keep hf (fun k hk => by simp at hk; subst hk; exact ⟨_, _, _, h.fc, by decide⟩),
    h.fr.setCell (.inr (by show w0.heap.size ≤ fb; exact h.gf)) _, h.gf⟩
theorem FX.setLoc (h : FX w0 w fb K mb ev sv qs xv v loc s l off rd) (n : Nat) : FX w0 (w.setCell ⟨fb, 0, none⟩ (.int .u64 (n : Int))) fb K mb ev sv qs xv v n s l off rd := h.store 0 _ rfl
/-- The rest, where only the frame address' rule turns. -/
theorem FO.cfa (h : FO w0 w K mb ev sv qs xv v s l) {c : LRule} {ev' : Value} (he : ExV w xv ev' c.expr) : FO w0 w K mb ev' sv qs xv v (s.1.setCfa c, s.2) l :=
  ⟨he, h.mp, h.ib, h.st, h.sr, h.sq, h.sk, h.nd, h.cb, h.ow, h.xo, h.gm, h.gq, h.gs, h.gb⟩
theorem FX.setCfa (h : FX w0 w fb K mb ev sv qs xv v loc s l off rd) (i : Nat) (u : Value) {c : LRule} {ev' : Value} (he : (fcells K loc s.1.cfa ev mb).setIfInBounds i u = fcells K loc c ev' mb) (hx : ExV w xv ev' c.expr) :
    FX w0 (w.setCell ⟨fb, i, none⟩ u) fb K mb ev' sv qs xv v loc (s.1.setCfa c, s.2) l off rd := by
  have hf : Fr [fb] w (w.setCell ⟨fb, i, none⟩ u) := (Fr.refl _ _).setCell (.inl (by simp)) _
  exact ⟨by rw [show (s.1.setCfa c, s.2).1.cfa = c from rfl, ← he]; exact blk_set h.fc i u, h.bf.fr hf (by simpa using h.buf_ne) (fun g hg => by simpa using h.own_ne g hg),
    (h.fo.cfa hx).keep hf (fun k hk => by simp at hk; subst hk; exact ⟨_, _, _, h.fc, by decide⟩), h.fr.setCell (.inr (by show w0.heap.size ≤ fb; exact h.gf)) _, h.gf⟩

/-- A rule is laid into the map. -/
theorem FX.put (h : FX w0 w fb K mb ev sv qs xv v loc s l off rd) {f : Int → Option Value} {k : Int} {r : LRule} {u : Value} (hf2 : ∀ k, (s.1.rules k = none ∧ f k = none) ∨ ∃ r v, s.1.rules k = some r ∧ f k = some v ∧ RulR w xv r v)
    (hm : MapIs w mb .u64 f) (h1 : MapIs w' mb .u64 (upd f k u)) (hf : Fr [mb] w w') (hr : RulR w xv r u) : FX w0 w' fb K mb ev sv qs xv v loc (s.1.put k r, s.2) l off rd := by
  have hc : ∀ {b cs t z}, w.heap[b]? = some (.cells cs t z) → b ∉ [mb] := fun {b cs t z} hb => by simpa using cmap_ne hb hm
  have hv : ∀ g, v.ownBlock = some g → g ∉ [mb] := fun g hg => by obtain ⟨cur, hcur⟩ := own_cells h.fo.ow hg; exact hc hcur
  have hx : ∀ g, xv.ownBlock = some g → g ∉ [mb] := fun g hg => hv g (h.fo.xo g hg)
  have hs : ∀ g, sv.ownBlock = some g → g ∉ [mb] := fun g hg => by obtain ⟨cur, hcur⟩ := own_cells h.fo.sr hg; exact hc hcur
  obtain ⟨cs, hcb, hc8⟩ := h.fo.cb
  have hnd := h.fo.nd
  simp only [List.nodup_cons, List.mem_cons, not_or] at hnd
  refine ⟨hf.get h.fc (hc h.fc), h.bf.fr hf (hc h.bf.1) hv, ⟨h.fo.ex.fr hf hx, ?_, h.fo.ib.fr hf (by simpa using fun e => hnd.1.1 e.symm), hf.get h.fo.st (hc h.fo.st), own_fr h.fo.sr hf hs, fun q hq => ⟨(h.fo.sq q hq).1.fr hf hx, (h.fo.sq q hq).2.fr hf hx ?_⟩, h.fo.sk, h.fo.nd,
    ⟨cs, hf.get hcb (hc hcb), hc8⟩, own_fr h.fo.ow hf hv, h.fo.xo, h.fo.gm, h.fo.gq, h.fo.gs, h.fo.gb⟩, h.fr.trans hf (fun i hi hlt => by simp at hi; have := h.fo.gm; omega), h.gf⟩
  · exact MapR.put h1 hf2 hf hx (hr.fr hf hx)
  · have : q.2.2 ∈ qs.map (·.2.2) := List.mem_map.2 ⟨q, hq, rfl⟩
    simp only [List.mem_singleton]
    rintro e
    exact hnd.1.2 (e ▸ this)

theorem FX.cell (h : FX w0 w fb K mb ev sv qs xv v loc s l off rd) (i : Nat) : w.cell? ⟨fb, i, none⟩ = (fcells K loc s.1.cfa ev mb)[i]? := blk_cell h.fc i
theorem FX.free (h : FX w0 w fb K mb ev sv qs xv v loc s l off rd) (i : Nat) : w.frozen? ⟨fb, i, none⟩ = false := blk_free h.fc i

/-- A number without a sign is read. -/
theorem FX.readU (h : FX w0 w fb K mb ev sv qs xv v loc s l off rd) (n : Nat) (hn : n < 18446744073709551616) (rest : List UInt8) (hp : l.drop off = uleb n ++ rest) :
    Calls Tryz.prog 37 #[.iface 83 (ptrX K.bb)] w fun e w' => e = .returned (.tuple #[.int .u64 (n : Int), .int .u32 (((uleb n).length : Nat) : Int)]) ∧ FX w0 w' fb K mb ev sv qs xv v loc s l (off + (uleb n).length) true := by
  refine (lDecU_any K.bb v l off rd w h.bf (uleb n) rest hp (uleb_ended n) (uleb_le10 hn)).mono ?_
  rintro e w' ⟨rfl, hb, hf⟩
  rw [uval_uleb, show n % M64 = n from Nat.mod_eq_of_lt hn]
  exact ⟨rfl, h.call hb hf⟩
theorem FX.readS (h : FX w0 w fb K mb ev sv qs xv v loc s l off rd) (n : Int) (h1 : -9223372036854775808 ≤ n) (h2 : n ≤ 9223372036854775807) (rest : List UInt8) (hp : l.drop off = sleb n ++ rest) :
    Calls Tryz.prog 75 #[.iface 83 (ptrX K.bb)] w fun e w' => e = .returned (.tuple #[.int .i64 n, .int .u32 (((sleb n).length : Nat) : Int)]) ∧ FX w0 w' fb K mb ev sv qs xv v loc s l (off + (sleb n).length) true := by
  refine (lDecS_any K.bb v l off rd w h.bf (sleb n) rest hp (sleb_ended n) (sleb_le10 h1 h2)).mono ?_
  rintro e w' ⟨rfl, hb, hf⟩
  rw [sval_sleb, wrap64_id h1 h2]
  exact ⟨rfl, h.call hb hf⟩
theorem FX.readB (h : FX w0 w fb K mb ev sv qs xv v loc s l off rd) (x : UInt8) (rest : List UInt8) (hp : l.drop off = x :: rest) :
    Calls Tryz.prog 73 #[ptrX K.bb] w fun e w' => e = .returned (.tuple #[vb x, .nilIface]) ∧ FX w0 w' fb K mb ev sv qs xv v loc s l (off + 1) true := by
  have hlt : off < l.length := by
    have := congrArg List.length hp; simp at this; omega
  have hx : l[off] = x := by
    have := List.drop_eq_getElem_cons hlt
    rw [hp] at this; exact (List.cons.inj this).1.symm
  refine (BufReadByte_some K.bb v l off rd w h.bf hlt).mono ?_
  rintro e w' ⟨rfl, hb, hf⟩
  rw [hx]
  exact ⟨rfl, h.call hb hf⟩
end
end Go.Proofs.YtahohmdfllgedaaGreat
