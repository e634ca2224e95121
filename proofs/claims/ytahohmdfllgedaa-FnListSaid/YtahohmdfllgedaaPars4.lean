/- parseCIE. -/
import Derived.Test.YtahohmdfllgedaaPars3
namespace Go.Proofs.Ytahohmdfllgedaa
open Go.RowKit

set_option maxRecDepth 100000 in
set_option maxHeartbeats 20000000 in
theorem parseCIE_any (pb bb total : Nat) (ev : Value) (mb cb : Nat) (fv : Value) (L : Nat) (v : Value) (D : List UInt8) (off : Nat) (rd : Bool) (N : Int) (w : World)
    (h : PC w pb bb total ev mb (.pointer (some ⟨cb, 0, none⟩)) fv L) (hc : w.heap[cb]? = some (.cells #[.int .u32 (L : Int), .int .u32 N, .int .u8 0, .string ⟨#[]⟩, .int .u64 0, .int .i64 0, .int .u64 0, .slice none 0 0, .int .u64 0, .int .u8 0] 181 (0, 0))) (hb : BufR w bb v D off rd)
    (hv : ∀ g, v.ownBlock = some g → g < w.heap.size ∧ g ≠ pb ∧ g ≠ bb ∧ g ≠ cb) (hd1 : pb ≠ bb) (hd2 : pb ≠ cb) (hd3 : bb ≠ cb)
    (ver : UInt8) (code : Nat) (off1 : Int) (ret : Nat) (ins rest : List UInt8) (hcode : code < 18446744073709551616) (ho1 : -9223372036854775808 ≤ off1) (ho2 : off1 ≤ 9223372036854775807) (hret : ret < 18446744073709551616)
    (body : List UInt8) (hbody : body = [ver, 0] ++ uleb code ++ sleb off1 ++ uleb ret ++ ins) (hD : D.drop off = body ++ rest) (hL : L = body.length) (hL2 : L < 1073741824) :
    Calls Try.prog 84 #[.pointer (some ⟨pb, 0, none⟩)] w fun e w' => e = .returned (.func (.func 68) #[] #[]) ∧
      PC w' pb bb total ev mb (.pointer (some ⟨cb, 0, none⟩)) fv 0 ∧ (∃ a n c, w'.heap[cb]? = some (.cells #[.int .u32 (L : Int), .int .u32 N, vb ver, .string ⟨#[]⟩, .int .u64 (code : Int), .int .i64 off1, .int .u64 (ret : Int), (.slice a n c), .int .u64 0, .int .u8 0] 181 (0, 0)) ∧ Sl w' (.slice a n c) (vbs ins) ∧
        (∀ g, (Value.slice a n c).ownBlock = some g → v.ownBlock = some g)) ∧ (∃ rd', BufR w' bb v D (off + L) rd') ∧ Fr [pb, bb, cb] w w' := by
  have hDl : off + L ≤ D.length := by
    have := congrArg List.length hD; rw [List.length_drop, List.length_append] at this; have := hb.2.2.2.1; omega
  have hDp : 0 < D.length := by rw [hbody] at hL; simp at hL; omega
  have htake : (D.drop off).take L = body := by rw [hD, hL, List.take_left]
  have hcap : body.length ≤ 1099511627776 := by omega
  have HB0 : Hid (body[0]? = some ver) := by show _ = _; rw [hbody]; rfl
  have HB1 : Hid (body[1]? = some 0) := by show _ = _; rw [hbody]; rfl
  have HD2 : Hid (body.drop 2 = uleb code ++ (sleb off1 ++ uleb ret ++ ins)) := by show _ = _; rw [hbody]; simp
  have HD3 : Hid (body.drop (2 + (uleb code).length) = sleb off1 ++ (uleb ret ++ ins)) := by show _ = _; rw [← List.drop_drop, HD2.out, List.drop_left, List.append_assoc]
  have HD4 : Hid (body.drop (2 + (uleb code).length + (sleb off1).length) = uleb ret ++ ins) := by show _ = _; rw [← List.drop_drop, HD3.out, List.drop_left]
  have HD5 : Hid (body.drop (2 + (uleb code).length + (sleb off1).length + (uleb ret).length) = ins) := by show _ = _; rw [← List.drop_drop, HD4.out, List.drop_left]
  have hbl : body.length = 2 + (uleb code).length + (sleb off1).length + (uleb ret).length + ins.length := by rw [hbody]; simp; omega
  have hbl2 : 2 ≤ body.length := by omega
  have E1 := uleb_le10 hcode
  have E2 := sleb_le10 ho1 ho2
  have E3 := uleb_le10 hret
  have U1 : Hid (uval (uleb code) % M64 = code) := by show _ = _; rw [uval_uleb]; exact Nat.mod_eq_of_lt hcode
  have U2 : Hid (wrap64 (sval (sleb off1)) = off1) := by show _ = _; rw [sval_sleb]; exact wrap64_id ho1 ho2
  have U3 : Hid (uval (uleb ret) % M64 = ret) := by show _ = _; rw [uval_uleb]; exact Nat.mod_eq_of_lt hret
  have hwl : IntKind.i64.wrap (L : Int) = (L : Int) := IntWalk.i64_in _ (by omega)
  have c1 : w.cell? ⟨pb, 1, none⟩ = some (.pointer (some ⟨bb, 0, none⟩)) := blk_cell h 1
  have c7 : w.cell? ⟨pb, 7, none⟩ = some (.int .u32 (L : Int)) := blk_cell h 7
  have H := Lib.hid h
  have Hc := Lib.hid hc
  have Hb := Lib.hid hb
  have Hv := Lib.hid hv
  have Hd1 := Lib.hid hd1
  have Hd2 := Lib.hid hd2
  have Hd3 := Lib.hid hd3
  have HT := Lib.hid htake
  have HL := Lib.hid hL
  have HBL := Lib.hid hbl
  clear h hc hb hv hd1 hd2 hd3 hbody hD hL htake hcode ho1 ho2 hret hbl
  go_enter Try.func84, Try.ntmps84
  go_wp2_with fail
  go_region_held3 (fun w' => w'.cell? ⟨pb, 1, none⟩ = some (.pointer (some ⟨bb, 0, none⟩)) ∧ w'.cell? ⟨pb, 7, none⟩ = some (.int .u32 (L : Int)))
    (first | exact ⟨c1, c7⟩ | exact ⟨HF2.out.cell c1 (by simpa using Hd1.out), HF2.out.cell c7 (by simpa using Hd1.out)⟩)
    ((go_at_call 115; go_must (refine (BufNext_any bb v D off L rd _ (Hb.out.fr (Fr.drew (Fr.refl [] w)) (by simp) (by simp)) hDl hDp).mono ?_); rw [HT.out]; rintro e w2 ⟨⟨a2, ca2, rfl, hs2, ho2⟩, hb2, hf2⟩; have HS2 := Lib.hid hs2; have HO2 := Lib.hid ho2; have HB2 := Lib.hid hb2; have HF2 : Hid (Fr [bb] w w2) := (Fr.refl [bb] w).drew.trans hf2 (fun i h _ => h); clear hs2 ho2 hb2 hf2))
  clear c1 c7 hwl
  go_wp2_with (go_at_call 34; refine (NewBuffer_any a2 L ca2 _).mono ?_; rintro e w3 ⟨rfl, rfl⟩)
  have hg3 : Fr [] w2 (w2.alloc (.cells #[.slice a2 L ca2, .int .i64 0, .bool false] 79 (0, 0))) := (Fr.refl _ _).alloc _
  have hb3 : BufR (w2.alloc (.cells #[.slice a2 L ca2, .int .i64 0, .bool false] 79 (0, 0))) w2.heap.size (.slice a2 L ca2) body 0 false :=
    BufR_new HS2.out (fun g hg => by have := (Hv.out g (HO2.out g hg)).1; have := HF2.out.size; omega) hcap
  have C3 : Hid (CI w2 (w2.alloc (.cells #[.slice a2 L ca2, .int .i64 0, .bool false] 79 (0, 0))) pb bb total ev mb cb w2.heap.size fv L #[.int .u32 (L : Int), .int .u32 N, .int .u8 0, .string ⟨#[]⟩, .int .u64 0, .int .i64 0, .int .u64 0, .slice none 0 0, .int .u64 0, .int .u8 0] (.slice a2 L ca2) body 0) :=
    ⟨(H.out.fr HF2.out (by simpa using Hd1.out)).fr hg3 (by simp), hg3.get (HF2.out.get Hc.out (by simpa using Hd3.out.symm)) (by simp), ⟨false, hb3⟩, hg3.mono (by simp), Hd2.out,
      (by have := lt_heap H.out; have := HF2.out.size; omega), (by have := lt_heap Hc.out; have := HF2.out.size; omega), (fun g hg => by have := Hv.out g (HO2.out g hg); exact ⟨this.2.2.2, this.2.1⟩), Nat.le_refl _⟩
  generalize w2.alloc (.cells #[.slice a2 L ca2, .int .i64 0, .bool false] 79 (0, 0)) = w3 at *
  clear hg3 hb3
  obtain ⟨nb, hnb⟩ : ∃ nb, w2.heap.size = nb := ⟨_, rfl⟩
  rw [hnb] at C3 ⊢
  clear hnb
  go_wp2_with fail
  have k5 : w3.cell? ⟨pb, 5, none⟩ = some (.pointer (some ⟨cb, 0, none⟩)) := blk_cell C3.out.pc 5
  obtain ⟨rd3, hb3⟩ := C3.out.bf
  have B3 : Hid (BufR w3.drew nb (.slice a2 L ca2) body 0 rd3) := hb3.fr (Fr.drew (Fr.refl [] w3)) (by simp) (by simp)
  clear hb3
  go_region_held3 (fun w' => w'.cell? ⟨pb, 5, none⟩ = some (.pointer (some ⟨cb, 0, none⟩)))
    (first | exact k5 | exact k6 | with_reducible exact KB.out _)
    ((go_at_call 76; go_must (refine (BufReadByte_some nb _ body 0 rd3 _ B3.out (by omega)).mono ?_); rw [show body[0]'(by omega) = ver from Option.some.inj ((List.getElem?_eq_getElem (by omega)).symm.trans HB0.out)]; rintro e u4 ⟨rfl, hb4, hf4⟩; have C4' := Lib.hid (C3.out.call hb4 ((Fr.refl [nb] w3).drew.trans hf4 (fun i h _ => h))); have k6 : u4.cell? ⟨pb, 5, none⟩ = some (.pointer (some ⟨cb, 0, none⟩)) := blk_cell C4'.out.pc 5; have s : u4.cell? ⟨cb, 2, none⟩ = some (.int .u8 0) := blk_cell C4'.out.ci 2; have z : u4.frozen? ⟨cb, 2, none⟩ = false := blk_free C4'.out.ci 2; have KB : Hid (∀ n, (u4.setCell ⟨cb, 2, none⟩ n).cell? ⟨pb, 5, none⟩ = some (.pointer (some ⟨cb, 0, none⟩))) := fun n => blk_cell (C4'.out.store 2 n).pc 5; clear hb4 hf4))
  have hC4 := C4'.out.store 2 (vb ver)
  generalize u4.setCell ⟨cb, 2, none⟩ (vb ver) = w4 at *
  have C4 : Hid (CI w2 w4 pb bb total ev mb cb nb fv L #[.int .u32 (L : Int), .int .u32 N, vb ver, .string ⟨#[]⟩, .int .u64 0, .int .i64 0, .int .u64 0, .slice none 0 0, .int .u64 0, .int .u8 0] (.slice a2 L ca2) body 1) := hC4
  clear hC4 s z KB k5 k6 C4' C3
  go_wp2_with fail
  have k5 : w4.cell? ⟨pb, 5, none⟩ = some (.pointer (some ⟨cb, 0, none⟩)) := blk_cell C4.out.pc 5
  obtain ⟨rd4, hb4⟩ := C4.out.bf
  have B4 : Hid (BufR w4.drew nb (.slice a2 L ca2) body 1 rd4) := hb4.fr (Fr.drew (Fr.refl [] w4)) (by simp) (by simp)
  clear hb4
  go_region_held3 (fun w' => w'.cell? ⟨pb, 5, none⟩ = some (.pointer (some ⟨cb, 0, none⟩)))
    (first | exact k5 | exact k6 | with_reducible exact KB.out _)
    ((go_at_call 116; go_must (refine (uReadString_empty nb _ body 1 rd4 _ B4.out (by omega) (Option.some.inj ((List.getElem?_eq_getElem (by omega)).symm.trans HB1.out))).mono ?_); rintro e u5 ⟨rfl, hb5, hf5⟩; have C5' := Lib.hid (C4.out.call hb5 ((Fr.refl [nb] w4).drew.trans hf5 (fun i h _ => h))); have k6 : u5.cell? ⟨pb, 5, none⟩ = some (.pointer (some ⟨cb, 0, none⟩)) := blk_cell C5'.out.pc 5; have s : u5.cell? ⟨cb, 3, none⟩ = some (.string ⟨#[]⟩) := blk_cell C5'.out.ci 3; have z : u5.frozen? ⟨cb, 3, none⟩ = false := blk_free C5'.out.ci 3; have KB : Hid (∀ n, (u5.setCell ⟨cb, 3, none⟩ n).cell? ⟨pb, 5, none⟩ = some (.pointer (some ⟨cb, 0, none⟩))) := fun n => blk_cell (C5'.out.store 3 n).pc 5; clear hb5 hf5))
  have hC5 := C5'.out.store 3 (.string ⟨#[]⟩)
  generalize u5.setCell ⟨cb, 3, none⟩ (.string ⟨#[]⟩) = w5 at *
  have C5 : Hid (CI w2 w5 pb bb total ev mb cb nb fv L #[.int .u32 (L : Int), .int .u32 N, vb ver, .string ⟨#[]⟩, .int .u64 0, .int .i64 0, .int .u64 0, .slice none 0 0, .int .u64 0, .int .u8 0] (.slice a2 L ca2) body 2) := hC5
  clear hC5 s z KB k5 k6 C5' C4
  go_wp2_with (go_at_call 114; refine (parsingEH_any pb bb total ev mb _ fv L _ C5.out.pc).mono ?_; rintro e w' ⟨rfl, rfl⟩)
  have k5 : w5.cell? ⟨pb, 5, none⟩ = some (.pointer (some ⟨cb, 0, none⟩)) := blk_cell C5.out.pc 5
  obtain ⟨rd5, hb5⟩ := C5.out.bf
  have B5 : Hid (BufR w5.drew nb (.slice a2 L ca2) body 2 rd5) := hb5.fr (Fr.drew (Fr.refl [] w5)) (by simp) (by simp)
  clear hb5
  go_region_held3 (fun w' => w'.cell? ⟨pb, 5, none⟩ = some (.pointer (some ⟨cb, 0, none⟩)))
    (first | exact k5 | exact k6 | with_reducible exact KB.out _)
    ((go_at_call 33; go_must (refine (lDecU_any nb _ body 2 rd5 _ B5.out (uleb code) _ HD2.out (uleb_ended _) E1).mono ?_); rw [U1.out]; rintro e u6 ⟨rfl, hb6, hf6⟩; have C6' := Lib.hid (C5.out.call hb6 ((Fr.refl [nb] w5).drew.trans hf6 (fun i h _ => h))); have k6 : u6.cell? ⟨pb, 5, none⟩ = some (.pointer (some ⟨cb, 0, none⟩)) := blk_cell C6'.out.pc 5; have s : u6.cell? ⟨cb, 4, none⟩ = some (.int .u64 0) := blk_cell C6'.out.ci 4; have z : u6.frozen? ⟨cb, 4, none⟩ = false := blk_free C6'.out.ci 4; have KB : Hid (∀ n, (u6.setCell ⟨cb, 4, none⟩ n).cell? ⟨pb, 5, none⟩ = some (.pointer (some ⟨cb, 0, none⟩))) := fun n => blk_cell (C6'.out.store 4 n).pc 5; clear hb6 hf6))
  have hC6 := C6'.out.store 4 (.int .u64 (code : Int))
  generalize u6.setCell ⟨cb, 4, none⟩ (.int .u64 (code : Int)) = w6 at *
  have C6 : Hid (CI w2 w6 pb bb total ev mb cb nb fv L #[.int .u32 (L : Int), .int .u32 N, vb ver, .string ⟨#[]⟩, .int .u64 (code : Int), .int .i64 0, .int .u64 0, .slice none 0 0, .int .u64 0, .int .u8 0] (.slice a2 L ca2) body (2 + (uleb code).length)) := hC6
  clear hC6 s z KB k5 k6 C6' C5
  go_wp2_with fail
  have k5 : w6.cell? ⟨pb, 5, none⟩ = some (.pointer (some ⟨cb, 0, none⟩)) := blk_cell C6.out.pc 5
  obtain ⟨rd6, hb6⟩ := C6.out.bf
  have B6 : Hid (BufR w6.drew nb (.slice a2 L ca2) body (2 + (uleb code).length) rd6) := hb6.fr (Fr.drew (Fr.refl [] w6)) (by simp) (by simp)
  clear hb6
  go_region_held3 (fun w' => w'.cell? ⟨pb, 5, none⟩ = some (.pointer (some ⟨cb, 0, none⟩)))
    (first | exact k5 | exact k6 | with_reducible exact KB.out _)
    ((go_at_call 39; go_must (refine (lDecS_any nb _ body (2 + (uleb code).length) rd6 _ B6.out (sleb off1) _ HD3.out (sleb_ended _) E2).mono ?_); rw [U2.out]; rintro e u7 ⟨rfl, hb7, hf7⟩; have C7' := Lib.hid (C6.out.call hb7 ((Fr.refl [nb] w6).drew.trans hf7 (fun i h _ => h))); have k6 : u7.cell? ⟨pb, 5, none⟩ = some (.pointer (some ⟨cb, 0, none⟩)) := blk_cell C7'.out.pc 5; have s : u7.cell? ⟨cb, 5, none⟩ = some (.int .i64 0) := blk_cell C7'.out.ci 5; have z : u7.frozen? ⟨cb, 5, none⟩ = false := blk_free C7'.out.ci 5; have KB : Hid (∀ n, (u7.setCell ⟨cb, 5, none⟩ n).cell? ⟨pb, 5, none⟩ = some (.pointer (some ⟨cb, 0, none⟩))) := fun n => blk_cell (C7'.out.store 5 n).pc 5; clear hb7 hf7))
  have hC7 := C7'.out.store 5 (.int .i64 off1)
  generalize u7.setCell ⟨cb, 5, none⟩ (.int .i64 off1) = w7 at *
  have C7 : Hid (CI w2 w7 pb bb total ev mb cb nb fv L #[.int .u32 (L : Int), .int .u32 N, vb ver, .string ⟨#[]⟩, .int .u64 (code : Int), .int .i64 off1, .int .u64 0, .slice none 0 0, .int .u64 0, .int .u8 0] (.slice a2 L ca2) body (2 + (uleb code).length + (sleb off1).length)) := hC7
  clear hC7 s z KB k5 k6 C7' C6
  go_wp2_with (go_at_call 114; refine (parsingEH_any pb bb total ev mb _ fv L _ C7.out.pc).mono ?_; rintro e w' ⟨rfl, rfl⟩)
  have k5 : w7.cell? ⟨pb, 5, none⟩ = some (.pointer (some ⟨cb, 0, none⟩)) := blk_cell C7.out.pc 5
  obtain ⟨rd7, hb7⟩ := C7.out.bf
  have B7 : Hid (BufR w7.drew nb (.slice a2 L ca2) body (2 + (uleb code).length + (sleb off1).length) rd7) := hb7.fr (Fr.drew (Fr.refl [] w7)) (by simp) (by simp)
  clear hb7
  go_region_held3 (fun w' => w'.cell? ⟨pb, 5, none⟩ = some (.pointer (some ⟨cb, 0, none⟩)))
    (first | exact k5 | exact k6 | with_reducible exact KB.out _)
    ((go_at_call 33; go_must (refine (lDecU_any nb _ body (2 + (uleb code).length + (sleb off1).length) rd7 _ B7.out (uleb ret) _ HD4.out (uleb_ended _) E3).mono ?_); rw [U3.out]; rintro e u8 ⟨rfl, hb8, hf8⟩; have C8' := Lib.hid (C7.out.call hb8 ((Fr.refl [nb] w7).drew.trans hf8 (fun i h _ => h))); have k6 : u8.cell? ⟨pb, 5, none⟩ = some (.pointer (some ⟨cb, 0, none⟩)) := blk_cell C8'.out.pc 5; have s : u8.cell? ⟨cb, 6, none⟩ = some (.int .u64 0) := blk_cell C8'.out.ci 6; have z : u8.frozen? ⟨cb, 6, none⟩ = false := blk_free C8'.out.ci 6; have KB : Hid (∀ n, (u8.setCell ⟨cb, 6, none⟩ n).cell? ⟨pb, 5, none⟩ = some (.pointer (some ⟨cb, 0, none⟩))) := fun n => blk_cell (C8'.out.store 6 n).pc 5; clear hb8 hf8))
  have hC8 := C8'.out.store 6 (.int .u64 (ret : Int))
  generalize u8.setCell ⟨cb, 6, none⟩ (.int .u64 (ret : Int)) = w8 at *
  have C8 : Hid (CI w2 w8 pb bb total ev mb cb nb fv L #[.int .u32 (L : Int), .int .u32 N, vb ver, .string ⟨#[]⟩, .int .u64 (code : Int), .int .i64 off1, .int .u64 (ret : Int), .slice none 0 0, .int .u64 0, .int .u8 0] (.slice a2 L ca2) body (2 + (uleb code).length + (sleb off1).length + (uleb ret).length)) := hC8
  clear hC8 s z KB k5 k6 C8' C7
  have k5 : w8.cell? ⟨pb, 5, none⟩ = some (.pointer (some ⟨cb, 0, none⟩)) := blk_cell C8.out.pc 5
  have s9 : w8.cell? ⟨cb, 9, none⟩ = some (.int .u8 0) := blk_cell C8.out.ci 9
  have z9 : w8.frozen? ⟨cb, 9, none⟩ = false := blk_free C8.out.ci 9
  have hC9 : CI w2 (w8.setCell ⟨cb, 9, none⟩ (.int .u8 0)) pb bb total ev mb cb nb fv L #[.int .u32 (L : Int), .int .u32 N, vb ver, .string ⟨#[]⟩, .int .u64 (code : Int), .int .i64 off1, .int .u64 (ret : Int), .slice none 0 0, .int .u64 0, .int .u8 0] (.slice a2 L ca2) body (2 + (uleb code).length + (sleb off1).length + (uleb ret).length) := C8.out.store 9 (.int .u8 0)
  have C9 := Lib.hid hC9
  clear hC9
  go_wp2_with (go_at_call 114; refine (parsingEH_any pb bb total ev mb _ fv L _ C9.out.pc).mono ?_; rintro e w' ⟨rfl, rfl⟩)
  generalize w8.setCell ⟨cb, 9, none⟩ (.int .u8 0) = w9 at *
  clear k5 s9 z9 C8
  have k5 : w9.cell? ⟨pb, 5, none⟩ = some (.pointer (some ⟨cb, 0, none⟩)) := blk_cell C9.out.pc 5
  obtain ⟨rd9, hb9⟩ := C9.out.bf
  have B9 : Hid (BufR w9.drew nb (.slice a2 L ca2) body (2 + (uleb code).length + (sleb off1).length + (uleb ret).length) rd9) := hb9.fr (Fr.drew (Fr.refl [] w9)) (by simp) (by simp)
  have hm9 : body.length - (2 + (uleb code).length + (sleb off1).length + (uleb ret).length) = ins.length := by have := HBL.out; omega
  have HM9 := Lib.hid hm9
  clear hb9 hm9
  go_region_held3 (fun w' => w'.cell? ⟨pb, 5, none⟩ = some (.pointer (some ⟨cb, 0, none⟩)))
    (first | exact k5 | exact k6 | with_reducible exact KB.out _)
    ((go_at_call 37; go_must (refine (BufBytes_r nb _ body _ rd9 _ B9.out (by omega)).mono ?_); rw [HM9.out, HD5.out]; rintro e uq ⟨⟨a10, c10, rfl, hs10, ho10⟩, kq, huq⟩; have C10' := Lib.hid (C9.out.idle (w' := uq) (huq ▸ ((Fr.refl [] w9).drew.drewN kq))); have HS10 : Hid (Sl uq (.slice a10 ins.length c10) (vbs ins)) := hs10.fr (bs := []) (huq ▸ ((Fr.refl [] w9.drew).drewN kq)) (by simp); have HO10 := Lib.hid ho10; have k6 : uq.cell? ⟨pb, 5, none⟩ = some (.pointer (some ⟨cb, 0, none⟩)) := blk_cell C10'.out.pc 5; have s : uq.cell? ⟨cb, 7, none⟩ = some (.slice none 0 0) := blk_cell C10'.out.ci 7; have z : uq.frozen? ⟨cb, 7, none⟩ = false := blk_free C10'.out.ci 7; have KB : Hid (∀ n, (uq.setCell ⟨cb, 7, none⟩ n).cell? ⟨pb, 5, none⟩ = some (.pointer (some ⟨cb, 0, none⟩))) := fun n => blk_cell (C10'.out.store 7 n).pc 5; clear hs10 ho10 huq))
  have hC10 := C10'.out.store 7 (.slice a10 ins.length c10)
  have hgc : Fr [cb] uq (uq.setCell ⟨cb, 7, none⟩ (.slice a10 ins.length c10)) := (Fr.refl _ _).setCell (.inl (by simp)) _
  have hS11 : Sl (uq.setCell ⟨cb, 7, none⟩ (.slice a10 ins.length c10)) (.slice a10 ins.length c10) (vbs ins) := HS10.out.fr hgc (fun g hg => by have := (C9.out.v1 g (HO10.out g hg)).1; simpa using this)
  generalize uq.setCell ⟨cb, 7, none⟩ (.slice a10 ins.length c10) = w10 at *
  have C10 : Hid (CI w2 w10 pb bb total ev mb cb nb fv L #[.int .u32 (L : Int), .int .u32 N, vb ver, .string ⟨#[]⟩, .int .u64 (code : Int), .int .i64 off1, .int .u64 (ret : Int), (.slice a10 ins.length c10), .int .u64 0, .int .u8 0] (.slice a2 L ca2) body (2 + (uleb code).length + (sleb off1).length + (uleb ret).length)) := hC10
  have HS11 := Lib.hid hS11
  clear hC10 hgc hS11 s z KB k5 k6 C10' HS10
  have s7 : w10.cell? ⟨pb, 7, none⟩ = some (.int .u32 (L : Int)) := blk_cell C10.out.pc 7
  have z7 : w10.frozen? ⟨pb, 7, none⟩ = false := blk_free C10.out.pc 7
  go_wp2_with fail
  go_ret
  have hf11 : Fr [pb] w10 (w10.setCell ⟨pb, 7, none⟩ (.int .u32 0)) := (Fr.refl _ _).setCell (.inl (by simp)) _
  have F2 : Fr [pb, cb] w2 (w10.setCell ⟨pb, 7, none⟩ (.int .u32 0)) := C10.out.fr.trans (hf11.mono (bs := [pb, cb]) (by simp)) (fun i h _ => h)
  refine ⟨rfl, PC.setLen C10.out.pc 0, ⟨a10, ins.length, c10, ?_, ?_, fun g hg => HO2.out g (HO10.out g hg)⟩, ⟨_, HB2.out.fr F2 (by simpa using ⟨Hd1.out.symm, Hd3.out⟩) (fun g hg => by have := Hv.out g hg; simpa using ⟨this.2.1, this.2.2.2⟩)⟩, (HF2.out.mono (bs := [pb, bb, cb]) (by simp)).trans (F2.mono (bs := [pb, bb, cb]) (by simp +contextual)) (fun i h _ => h)⟩
  · exact hf11.get C10.out.ci (by simpa using Hd2.out.symm)
  · exact HS11.out.fr hf11 (fun g hg => by have := (Hv.out g (HO2.out g (HO10.out g hg))).2.1; simpa using this)
end Go.Proofs.Ytahohmdfllgedaa
