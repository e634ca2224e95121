/- The parser of call frame information: its context, parselength. -/
import Derived.Test.YtahohmdfllgedaaIo5
import Derived.Test.YtahohmdfllgedaaMaps
namespace Go.Proofs.Ytahohmdfllgedaa
open Go.RowKit

/-- Block pb is a context of the parser. -/
def pcCells (bb total : Nat) (ev : Value) (mb : Nat) (cv fv : Value) (len : Nat) : Array Value :=
  #[.int .u64 0, .pointer (some ⟨bb, 0, none⟩), .int .i64 (total : Int), ev, .map (some mb), cv, fv, .int .u32 (len : Int), .int .i64 8, .int .u64 0, .nilIface]
def PC (w : World) (pb bb total : Nat) (ev : Value) (mb : Nat) (cv fv : Value) (len : Nat) : Prop := w.heap[pb]? = some (.cells (pcCells bb total ev mb cv fv len) 150 (0, 0))

theorem PC.fr {bs : List Nat} {w w' : World} {pb bb total : Nat} {ev : Value} {mb : Nat} {cv fv : Value} {len : Nat} (h : PC w pb bb total ev mb cv fv len) (f : Fr bs w w') (hn : pb ∉ bs) : PC w' pb bb total ev mb cv fv len := f.get h hn

set_option maxRecDepth 100000 in
set_option maxHeartbeats 2000000 in
theorem pOffset_any (pb bb total : Nat) (ev : Value) (mb : Nat) (cv fv : Value) (len : Nat) (v : Value) (D : List UInt8) (off : Nat) (rd : Bool) (w : World) (h : PC w pb bb total ev mb cv fv len) (hb : BufR w bb v D off rd) (ht : total = D.length) :
    Calls Try.prog 81 #[.pointer (some ⟨pb, 0, none⟩)] w fun e w' => e = .returned (.int .i64 (off : Int)) ∧ ∃ k, w' = w.drewN k := by
  have c1 : w.cell? ⟨pb, 1, none⟩ = some (.pointer (some ⟨bb, 0, none⟩)) := by rw [blk_cell h]; rfl
  have c2 : w.cell? ⟨pb, 2, none⟩ = some (.int .i64 (total : Int)) := by rw [blk_cell h]; rfl
  have hl := hb.2.2.2.2
  have ho := hb.2.2.2.1
  have Hb := Lib.hid hb
  have Ht : Hid (IntKind.i64.wrap ((total : Int) - ((D.length - off : Nat) : Int)) = (off : Int)) := by
    show _ = _
    rw [IntWalk.i64_in _ (by omega)]; omega
  have ht1 := Ht.out
  clear h hb ht
  go_enter Try.func81, Try.ntmps81
  go_wp2_with fail
  go_quiet ((go_at_call 69; exact Calls.quiet_of (BufLen_any bb v D off (D.length - off) rd _ Hb.out (by omega))))
  go_wp2
  go_ret
  exact ⟨rfl, _, rfl⟩

set_option maxRecDepth 100000 in
set_option maxHeartbeats 2000000 in
theorem parsingEH_any (pb bb total : Nat) (ev : Value) (mb : Nat) (cv fv : Value) (len : Nat) (w : World) (h : PC w pb bb total ev mb cv fv len) :
    Calls Try.prog 114 #[.pointer (some ⟨pb, 0, none⟩)] w fun e w' => e = .returned (.bool false) ∧ w = w' := by
  have c9 : w.cell? ⟨pb, 9, none⟩ = some (.int .u64 0) := by rw [blk_cell h]; rfl
  clear h
  go_enter Try.func114, Try.ntmps114
  go_wp2_with fail
  go_ret
  exact ⟨rfl, rfl⟩

set_option maxRecDepth 100000 in
set_option maxHeartbeats 2000000 in
theorem cieEntry_any (pb bb total : Nat) (ev : Value) (mb : Nat) (cv fv : Value) (len : Nat) (n : Nat) (w : World) (h : PC w pb bb total ev mb cv fv len) :
    Calls Try.prog 83 #[.pointer (some ⟨pb, 0, none⟩), .int .u32 (n : Int)] w fun e w' => e = .returned (.bool ((n : Int) == 4294967295)) ∧ w = w' := by
  have H := Lib.hid h
  clear h
  go_enter Try.func83, Try.ntmps83
  go_wp2_with (go_at_call 114; refine (parsingEH_any pb bb total ev mb cv fv len _ H.out).mono ?_; rintro e w' ⟨rfl, rfl⟩)
  go_ret
  exact ⟨rfl, rfl⟩

theorem cieEntry_no (pb bb total : Nat) (ev : Value) (mb : Nat) (cv fv : Value) (len : Nat) (n : Nat) (hn : n < 1073741824) (w : World) (h : PC w pb bb total ev mb cv fv len) :
    Calls Try.prog 83 #[.pointer (some ⟨pb, 0, none⟩), .int .u32 (n : Int)] w fun e w' => e = .returned (.bool false) ∧ w = w' := by
  have e : ((n : Int) == 4294967295) = false := by rw [beq_eq_false_iff_ne]; omega
  refine (cieEntry_any pb bb total ev mb cv fv len n w h).mono ?_
  rintro e1 w' ⟨rfl, h2⟩
  exact ⟨by rw [e], h2⟩

theorem PC.setLen {w : World} {pb bb total : Nat} {ev : Value} {mb : Nat} {cv fv : Value} {len : Nat} (h : PC w pb bb total ev mb cv fv len) (n : Nat) : PC (w.setCell ⟨pb, 7, none⟩ (.int .u32 (n : Int))) pb bb total ev mb cv fv n := blk_set h 7 _
theorem PC.setCommon {w : World} {pb bb total : Nat} {ev : Value} {mb : Nat} {cv fv : Value} {len : Nat} (h : PC w pb bb total ev mb cv fv len) (n : Value) : PC (w.setCell ⟨pb, 5, none⟩ n) pb bb total ev mb n fv len := blk_set h 5 _
theorem PC.setFrame {w : World} {pb bb total : Nat} {ev : Value} {mb : Nat} {cv fv : Value} {len : Nat} (h : PC w pb bb total ev mb cv fv len) (n : Value) : PC (w.setCell ⟨pb, 6, none⟩ n) pb bb total ev mb cv n len := blk_set h 6 _
theorem PC.setEntries {w : World} {pb bb total : Nat} {ev : Value} {mb : Nat} {cv fv : Value} {len : Nat} (h : PC w pb bb total ev mb cv fv len) (n : Value) : PC (w.setCell ⟨pb, 3, none⟩ n) pb bb total n mb cv fv len := blk_set h 3 _

/-- What parselength leaves of a common entry. -/
def cieNew (L : Nat) : Array Value := #[.int .u32 (L : Int), .int .u32 4294967295, .int .u8 0, .string ⟨#[]⟩, .int .u64 0, .int .i64 0, .int .u64 0, .slice none 0 0, .int .u64 0, .int .u8 0]
def fdeNew (L cb : Nat) : Array Value := #[.int .u32 (L : Int), .pointer (some ⟨cb, 0, none⟩), .slice none 0 0, .int .u64 0, .int .u64 0, .nilIface]

set_option maxRecDepth 100000 in
set_option maxHeartbeats 8000000 in
theorem parselength_cie (pb bb total : Nat) (ev : Value) (mb : Nat) (cv fv : Value) (len : Nat) (v : Value) (D : List UInt8) (off : Nat) (rd : Bool) (f : Int → Option Value) (w : World)
    (h : PC w pb bb total ev mb cv fv len) (hb : BufR w bb v D off rd) (ht : total = D.length) (hm : MapIs w mb .i64 f) (hv : ∀ g, v.ownBlock = some g → g < w.heap.size ∧ g ≠ pb ∧ g ≠ mb) (hd1 : pb ≠ bb) (hd2 : pb ≠ mb) (hd3 : bb ≠ mb)
    (L : Nat) (rest : List UInt8) (hD : D.drop off = leL (L + 4) 4 ++ leL 4294967295 4 ++ rest) (hL : L < 1073741824) :
    Calls Try.prog 68 #[.pointer (some ⟨pb, 0, none⟩)] w fun e w' => e = .returned (.func (.func 84) #[] #[]) ∧
      ∃ cb, w.heap.size ≤ cb ∧ PC w' pb bb total ev mb (.pointer (some ⟨cb, 0, none⟩)) fv L ∧ w'.heap[cb]? = some (.cells (cieNew L) 181 (0, 0)) ∧
        (∃ rd', BufR w' bb v D (off + 8) rd') ∧ MapIs w' mb .i64 (upd f (off : Int) (.pointer (some ⟨cb, 0, none⟩))) ∧ Fr [pb, bb, mb] w w' := by
  have hl := hb.2.2.2.2
  have ho := hb.2.2.2.1
  have hlen : off + 8 ≤ D.length := by
    have := congrArg List.length hD
    simp only [List.length_drop, List.length_append, leL_length] at this; omega
  have ht4 : leval ((D.drop off).take 4) = L + 4 := by
    rw [hD, List.append_assoc, List.take_append_of_le_length (by rw [leL_length]; omega), List.take_of_length_le (by rw [leL_length]; omega), leval_leL]; omega
  have ht8 : leval ((D.drop (off + 4)).take 4) = 4294967295 := by
    rw [← List.drop_drop, hD, List.append_assoc, List.drop_append_of_le_length (by rw [leL_length]; omega), List.drop_of_length_le (l := leL (L + 4) 4) (by rw [leL_length]; omega), List.nil_append,
      List.take_append_of_le_length (by rw [leL_length]; omega), List.take_of_length_le (by rw [leL_length]; omega), leval_leL]
  have c1 : w.cell? ⟨pb, 1, none⟩ = some (.pointer (some ⟨bb, 0, none⟩)) := by rw [blk_cell h]; rfl
  have H := Lib.hid h
  have Hb := Lib.hid hb
  have Hm := Lib.hid hm
  have Hv := Lib.hid hv
  have Hd1 := Lib.hid hd1
  have Hd2 := Lib.hid hd2
  have Hd3 := Lib.hid hd3
  have Ht4 := Lib.hid ht4
  have Ht8 := Lib.hid ht8
  have Ht := Lib.hid ht
  clear h hb hm hv hd1 hd2 hd3 hD ht4 ht8 ht
  go_enter Try.func68, Try.ntmps68
  go_wp2_with (go_at_call 81; refine (pOffset_any pb bb total ev mb cv fv len v D off rd _ H.out Hb.out Ht.out).mono ?_; rintro e w' ⟨rfl, k, rfl⟩)
  obtain ⟨M, hM⟩ : ∃ M, L + 4 = M := ⟨_, rfl⟩
  have hM4 : (4 : Int) ≤ (M : Int) := by omega
  have hMi : (M : Int) < 4294967296 := by omega
  have hM0 : ((M : Int) == 0) = false := by rw [beq_eq_false_iff_ne]; omega
  have HML : Hid ((M : Int) - 4 = (L : Int)) := by show _ = _; omega
  have HM := Lib.hid hM
  clear hM
  have F0 : Hid (Fr [] w ((w.drewN k).drew)) := ((Fr.refl _ _).drewN k).drew
  go_region_held3 (fun w' => w'.cell? ⟨pb, 1, none⟩ = some (.pointer (some ⟨bb, 0, none⟩)))
    (first | exact c1' | exact c1)
    ((go_at_call 82; go_must (refine (ReadFixed_u32 true bb v D off pb 7 (pcCells bb total ev mb cv fv len) 150 (len : Int) _ ⟨rd, Hb.out.fr F0.out (by simp) (by simp)⟩ (by omega) H.out rfl Hd1.out Hb.out.lt (fun g hg => ⟨(Hv.out g hg).1, (Hv.out g hg).2.1⟩)).mono ?_); rw [Ht4.out, HM.out]; rintro e w2 ⟨rfl, ⟨rd2, hb2⟩, hp2, hf2⟩; have Hp2 : Hid (PC w2 pb bb total ev mb cv fv M) := hp2; have Hb2 := Lib.hid hb2; have Hf2 : Hid (Fr [pb, bb] w w2) := (F0.out.mono (by simp)).trans hf2 (by simp); have c1' : w2.cell? ⟨pb, 1, none⟩ = some (.pointer (some ⟨bb, 0, none⟩)) := blk_cell Hp2.out 1; clear hb2 hp2 hf2))
  all_goals
    have c7 : w2.cell? ⟨pb, 7, none⟩ = some (.int .u32 (M : Int)) := blk_cell Hp2.out 7
    have d1 : (w2.alloc (.cells #[.int .u32 0] 72)).cell? ⟨pb, 1, none⟩ = some (.pointer (some ⟨bb, 0, none⟩)) := ((Fr.refl [] w2).alloc _).cell c1' (by simp)
    clear c1
    go_wp2_with (go_at_call 82; go_must (refine (ReadFixed_u32 true bb v D (off + 4) w2.heap.size 0 #[.int .u32 0] 72 0 _ ⟨rd2, Hb2.out.fr ((Fr.refl [] w2).alloc _) (by simp) (by simp)⟩ (by omega) (blk_new _ _) rfl (by have := Hb2.out.lt; omega) (by have := Hb2.out.lt; simp; omega) (fun g hg => by have := (Hv.out g hg).1; have := Hf2.out.size; simp; omega)).mono ?_); rw [Ht8.out])
    rintro e w3 ⟨rfl, ⟨rd3, hb3⟩, hp3, hf3⟩
    have hf3' : Fr [bb] w2 w3 := ((Fr.refl [bb] w2).alloc _).trans hf3 (by intro i hi hlt; simp at hi hlt; rcases hi with rfl | rfl; simp; omega)
    have Hp3 : Hid (PC w3 pb bb total ev mb cv fv M) := Hp2.out.fr hf3' (by simpa using Hd1.out)
    have e1 : w3.cell? ⟨pb, 7, none⟩ = some (.int .u32 (M : Int)) := blk_cell Hp3.out 7
    have e2 : w3.frozen? ⟨pb, 7, none⟩ = false := blk_free Hp3.out 7
    have q3 : w3.heap[w2.heap.size]? = some (.cells #[.int .u32 4294967295] 72 (0, 0)) := by simpa using hp3
    have q4 : (w3.setCell ⟨pb, 7, none⟩ (.int .u32 ((M : Int) - 4))).heap[w2.heap.size]? = some (.cells #[.int .u32 4294967295] 72 (0, 0)) := blk_set_other q3 (by have := lt_heap Hp2.out; omega)
    have e3 : (w3.setCell ⟨pb, 7, none⟩ (.int .u32 ((M : Int) - 4))).cell? ⟨w2.heap.size, 0, none⟩ = some (.int .u32 4294967295) := by rw [blk_cell q4]; rfl
    have HP4 : Hid (PC (w3.setCell ⟨pb, 7, none⟩ (.int .u32 ((M : Int) - 4))) pb bb total ev mb cv fv L) := by rw [HML.out]; exact Hp3.out.setLen L
    have Hb3 := Lib.hid hb3
    have Hf3 := Lib.hid hf3'
    clear hb3 hp3 hf3 hf3' q3 c1' c7 d1
    go_wp2_with (go_at_call 83; go_must (refine (cieEntry_any pb bb total ev mb cv fv L 4294967295 _ HP4.out).mono ?_); rintro e w' ⟨rfl, rfl⟩)
    have hf4 : Fr [pb] w3 (w3.setCell ⟨pb, 7, none⟩ (.int .u32 ((M : Int) - 4))) := (Fr.refl _ _).setCell (.inl (by simp)) _
    have hb4 : BufR (w3.setCell ⟨pb, 7, none⟩ (.int .u32 ((M : Int) - 4))) bb v D (off + 4 + 4) rd3 := Hb3.out.fr hf4 (by simpa using Hd1.out.symm) (fun g hg => by have := (Hv.out g hg).2.1; simpa using this)
    generalize w3.setCell ⟨pb, 7, none⟩ (.int .u32 ((M : Int) - 4)) = w4 at *
    have Hb4 := Lib.hid hb4
    have HF4 : Hid (Fr [pb, bb] w w4) := (Hf2.out.trans (Hf3.out.mono (bs := [pb, bb]) (by simp)) (fun i h _ => h)).trans (hf4.mono (bs := [pb, bb]) (by simp)) (fun i h _ => h)
    have Q4 := Lib.hid q4
    have hpq : Hid (w2.heap.size ≠ pb) := by have := lt_heap Hp2.out; show _ ≠ _; omega
    clear hb4 hf4 e1 e2 q4
    have k7 : w4.cell? ⟨pb, 7, none⟩ = some (.int .u32 (L : Int)) := blk_cell HP4.out 7
    have k0 : w4.cell? ⟨pb, 0, none⟩ = some (.int .u64 0) := blk_cell HP4.out 0
    have s5 : ∀ o, (w4.alloc o).drew.cell? ⟨pb, 5, none⟩ = some cv := fun o => ((Fr.refl [] w4).alloc o).drew.cell (blk_cell HP4.out 5) (by simp)
    have z5 : ∀ o, (w4.alloc o).drew.frozen? ⟨pb, 5, none⟩ = false := fun o => blk_free (((Fr.refl [] w4).alloc o).drew.get HP4.out (by simp)) 5
    generalize hN : (4294967295 : Int) = N at *
    have HN := Lib.hid hN
    clear hN
    have KA : Hid (∀ o, (w4.alloc o).drew.cell? ⟨pb, 7, none⟩ = some (.int .u32 (L : Int)) ∧ (w4.alloc o).drew.cell? ⟨pb, 0, none⟩ = some (.int .u64 0) ∧ (w4.alloc o).drew.cell? ⟨w2.heap.size, 0, none⟩ = some (.int .u32 N)) :=
      fun o => ⟨((Fr.refl [] w4).alloc _).drew.cell k7 (by simp), ((Fr.refl [] w4).alloc _).drew.cell k0 (by simp), ((Fr.refl [] w4).alloc _).drew.cell e3 (by simp)⟩
    have KB : Hid (∀ o n, ((w4.alloc o).setCell ⟨pb, 5, none⟩ n).drew.cell? ⟨pb, 7, none⟩ = some (.int .u32 (L : Int)) ∧ ((w4.alloc o).setCell ⟨pb, 5, none⟩ n).drew.cell? ⟨pb, 0, none⟩ = some (.int .u64 0) ∧ ((w4.alloc o).setCell ⟨pb, 5, none⟩ n).drew.cell? ⟨w2.heap.size, 0, none⟩ = some (.int .u32 N)) :=
      fun o n => ⟨blk_cell (PC.setCommon (((Fr.refl [] w4).alloc o).get HP4.out (by simp)) n) 7, blk_cell (PC.setCommon (((Fr.refl [] w4).alloc o).get HP4.out (by simp)) n) 0, (blk_cell (blk_set_other (((Fr.refl [] w4).alloc o).get Q4.out (by simp)) hpq.out) 0).trans rfl⟩
    go_region_held3 (fun w' => w'.cell? ⟨pb, 7, none⟩ = some (.int .u32 (L : Int)) ∧ w'.cell? ⟨pb, 0, none⟩ = some (.int .u64 0) ∧ w'.cell? ⟨w2.heap.size, 0, none⟩ = some (.int .u32 N))
      (first | exact ⟨k7, k0, e3⟩ | with_reducible exact KA.out _ | with_reducible exact KB.out _ _)
      (fail)
    all_goals
      have hG5 : Fr [pb] w4 ((w4.alloc (.cells #[.int .u32 (L : Int), .int .u32 N, .int .u8 0, .string ⟨#[]⟩, .int .u64 0, .int .i64 0, .int .u64 0, .slice none 0 0, .int .u64 0, .int .u8 0] 181)).setCell ⟨pb, 5, none⟩ (.pointer (some ⟨w4.heap.size, 0, none⟩))).drew := (((Fr.refl [pb] w4).alloc _).setCell (.inl (by simp)) _).drew
      have hP5 : PC ((w4.alloc (.cells #[.int .u32 (L : Int), .int .u32 N, .int .u8 0, .string ⟨#[]⟩, .int .u64 0, .int .i64 0, .int .u64 0, .slice none 0 0, .int .u64 0, .int .u8 0] 181)).setCell ⟨pb, 5, none⟩ (.pointer (some ⟨w4.heap.size, 0, none⟩))).drew pb bb total ev mb (.pointer (some ⟨w4.heap.size, 0, none⟩)) fv L :=
        PC.setCommon (((Fr.refl [] w4).alloc _).get HP4.out (by simp)) _
      have hC5 : (((w4.alloc (.cells #[.int .u32 (L : Int), .int .u32 N, .int .u8 0, .string ⟨#[]⟩, .int .u64 0, .int .i64 0, .int .u64 0, .slice none 0 0, .int .u64 0, .int .u8 0] 181)).setCell ⟨pb, 5, none⟩ (.pointer (some ⟨w4.heap.size, 0, none⟩))).drew).heap[w4.heap.size]? = some (.cells #[.int .u32 (L : Int), .int .u32 N, .int .u8 0, .string ⟨#[]⟩, .int .u64 0, .int .i64 0, .int .u64 0, .slice none 0 0, .int .u64 0, .int .u8 0] 181 (0, 0)) :=
        blk_set_other (blk_new w4 _) (by have := lt_heap HP4.out; omega)
      generalize ((w4.alloc (.cells #[.int .u32 (L : Int), .int .u32 N, .int .u8 0, .string ⟨#[]⟩, .int .u64 0, .int .i64 0, .int .u64 0, .slice none 0 0, .int .u64 0, .int .u8 0] 181)).setCell ⟨pb, 5, none⟩ (.pointer (some ⟨w4.heap.size, 0, none⟩))).drew = w5 at *
      have HP5 := Lib.hid hP5
      have HC5 := Lib.hid hC5
      have HF5 : Hid (Fr [pb, bb] w w5) := HF4.out.trans (hG5.mono (bs := [pb, bb]) (by simp)) (fun i h _ => h)
      have HB5 : Hid (BufR w5 bb v D (off + 4 + 4) rd3) := Hb4.out.fr hG5 (by simpa using Hd1.out.symm) (fun g hg => by have := (Hv.out g hg).2.1; simpa using this)
      have HM5 : Hid (MapIs w5 mb .i64 f) := Hm.out.fr HF5.out (by simpa using ⟨Hd2.out.symm, Hd3.out.symm⟩)
      clear hG5 hP5 hC5 k7 k0 e3 s5 z5 KA KB
      have k4 : w5.cell? ⟨pb, 4, none⟩ = some (.map (some mb)) := blk_cell HP5.out 4
      have k5 : w5.cell? ⟨pb, 5, none⟩ = some (.pointer (some ⟨w4.heap.size, 0, none⟩)) := blk_cell HP5.out 5
      obtain ⟨w6, hrun, hm6, hf6⟩ := MapIs.update (P := Try.prog) (HM5.out.fr (Fr.drew (Fr.refl [] w5)) (by simp)) Try.underlying147 Try.underlying3 (off : Int) (.pointer (some ⟨w4.heap.size, 0, none⟩))
      have HM6 := Lib.hid hm6
      have HF6 : Hid (Fr [mb] w5 w6) := (Fr.refl [mb] w5).drew.trans hf6 (fun i h _ => h)
      clear hm6 hf6
      go_wp2_with fail
      go_region_held3 (fun w' => w'.cell? ⟨pb, 4, none⟩ = some (.map (some mb)) ∧ w'.cell? ⟨pb, 5, none⟩ = some (.pointer (some ⟨w4.heap.size, 0, none⟩)))
        (first | exact ⟨k4, k5⟩ | exact ⟨HF6.out.cell k4 (by simpa using Hd2.out), HF6.out.cell k5 (by simpa using Hd2.out)⟩)
        (fail)
      all_goals
        go_wp2_with fail
        go_ret
        refine ⟨rfl, w4.heap.size, HF4.out.size, HP5.out.fr HF6.out (by simpa using Hd2.out), ?_, ?_, HM6.out, (HF5.out.mono (bs := [pb, bb, mb]) (by simp)).trans (HF6.out.mono (bs := [pb, bb, mb]) (by simp)) (fun i h _ => h)⟩
        · have := HF6.out.get HC5.out (by have := Hm.out.lt; have := HF4.out.size; simp; omega)
          rw [← HN.out] at this; exact this
        · exact ⟨_, HB5.out.fr HF6.out (by simpa using Hd3.out) (fun g hg => by have := (Hv.out g hg).2.2; simpa using this)⟩
end Go.Proofs.Ytahohmdfllgedaa
