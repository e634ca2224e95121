/- parselength at a frame's entry. -/
import Derived.Test.YtahohmdfllgedaaPars
namespace Go.Proofs.Ytahohmdfllgedaa
open Go.RowKit

set_option maxRecDepth 100000 in
set_option maxHeartbeats 8000000 in
theorem parselength_fde (pb bb total : Nat) (ev : Value) (mb : Nat) (cv fv : Value) (len : Nat) (v : Value) (D : List UInt8) (off : Nat) (rd : Bool) (f : Int → Option Value) (w : World)
    (h : PC w pb bb total ev mb cv fv len) (hb : BufR w bb v D off rd) (ht : total = D.length) (hm : MapIs w mb .i64 f) (hv : ∀ g, v.ownBlock = some g → g < w.heap.size ∧ g ≠ pb ∧ g ≠ mb) (hd1 : pb ≠ bb) (hd2 : pb ≠ mb) (hd3 : bb ≠ mb)
    (L n cb : Nat) (rest : List UInt8) (hD : D.drop off = leL (L + 4) 4 ++ leL n 4 ++ rest) (hL : L < 1073741824) (hn : n < 1073741824) (hfn : f (n : Int) = some (.pointer (some ⟨cb, 0, none⟩))) :
    Calls Try.prog 68 #[.pointer (some ⟨pb, 0, none⟩)] w fun e w' => e = .returned (.func (.func 85) #[] #[]) ∧
      ∃ fb, w.heap.size ≤ fb ∧ PC w' pb bb total ev mb cv (.pointer (some ⟨fb, 0, none⟩)) L ∧ w'.heap[fb]? = some (.cells (fdeNew L cb) 154 (0, 0)) ∧
        (∃ rd', BufR w' bb v D (off + 8) rd') ∧ Fr [pb, bb] w w' := by
  have hl := hb.2.2.2.2
  have ho := hb.2.2.2.1
  have hlen : off + 8 ≤ D.length := by
    have := congrArg List.length hD
    simp only [List.length_drop, List.length_append, leL_length] at this; omega
  have ht4 : leval ((D.drop off).take 4) = L + 4 := by
    rw [hD, List.append_assoc, List.take_append_of_le_length (by rw [leL_length]; omega), List.take_of_length_le (by rw [leL_length]; omega), leval_leL]; omega
  have ht8 : leval ((D.drop (off + 4)).take 4) = n := by
    rw [← List.drop_drop, hD, List.append_assoc, List.drop_append_of_le_length (by rw [leL_length]; omega), List.drop_of_length_le (l := leL (L + 4) 4) (by rw [leL_length]; omega), List.nil_append,
      List.take_append_of_le_length (by rw [leL_length]; omega), List.take_of_length_le (by rw [leL_length]; omega), leval_leL]; omega
  have c1 : w.cell? ⟨pb, 1, none⟩ = some (.pointer (some ⟨bb, 0, none⟩)) := by rw [blk_cell h]; rfl
  have H := Lib.hid h
  have Hb := Lib.hid hb
  have Hm := Lib.hid hm
  have Hv := Lib.hid hv
  have Hd1 := Lib.hid hd1
  have Hd2 := Lib.hid hd2
  have Hd3 := Lib.hid hd3
  have Ht4 := Lib.hid ht4
  have Ht8 := Lib.hid ht8
  have Ht := Lib.hid ht
  have Hfn := Lib.hid hfn
  clear h hb hm hv hd1 hd2 hd3 hD ht4 ht8 ht hfn
  go_enter Try.func68, Try.ntmps68
  go_wp2_with (go_at_call 81; refine (pOffset_any pb bb total ev mb cv fv len v D off rd _ H.out Hb.out Ht.out).mono ?_; rintro e w' ⟨rfl, k, rfl⟩)
  obtain ⟨M, hM⟩ : ∃ M, L + 4 = M := ⟨_, rfl⟩
  have hM4 : (4 : Int) ≤ (M : Int) := by omega
  have hMi : (M : Int) < 4294967296 := by omega
  have hM0 : ((M : Int) == 0) = false := by rw [beq_eq_false_iff_ne]; omega
  have HML : Hid ((M : Int) - 4 = (L : Int)) := by show _ = _; omega
  have HM := Lib.hid hM
  clear hM
  have F0 : Hid (Fr [] w ((w.drewN k).drew)) := ((Fr.refl _ _).drewN k).drew
  go_region_held3 (fun w' => w'.cell? ⟨pb, 1, none⟩ = some (.pointer (some ⟨bb, 0, none⟩)))
    (first | exact c1' | exact c1)
    ((go_at_call 82; go_must (refine (ReadFixed_u32 true bb v D off pb 7 (pcCells bb total ev mb cv fv len) 150 (len : Int) _ ⟨rd, Hb.out.fr F0.out (by simp) (by simp)⟩ (by omega) H.out rfl Hd1.out Hb.out.lt (fun g hg => ⟨(Hv.out g hg).1, (Hv.out g hg).2.1⟩)).mono ?_); rw [Ht4.out, HM.out]; rintro e w2 ⟨rfl, ⟨rd2, hb2⟩, hp2, hf2⟩; have Hp2 : Hid (PC w2 pb bb total ev mb cv fv M) := hp2; have Hb2 := Lib.hid hb2; have Hf2 : Hid (Fr [pb, bb] w w2) := (F0.out.mono (by simp)).trans hf2 (by simp); have c1' : w2.cell? ⟨pb, 1, none⟩ = some (.pointer (some ⟨bb, 0, none⟩)) := blk_cell Hp2.out 1; clear hb2 hp2 hf2))
  all_goals
    have c7 : w2.cell? ⟨pb, 7, none⟩ = some (.int .u32 (M : Int)) := blk_cell Hp2.out 7
    have d1 : (w2.alloc (.cells #[.int .u32 0] 72)).cell? ⟨pb, 1, none⟩ = some (.pointer (some ⟨bb, 0, none⟩)) := ((Fr.refl [] w2).alloc _).cell c1' (by simp)
    clear c1
    go_wp2_with (go_at_call 82; go_must (refine (ReadFixed_u32 true bb v D (off + 4) w2.heap.size 0 #[.int .u32 0] 72 0 _ ⟨rd2, Hb2.out.fr ((Fr.refl [] w2).alloc _) (by simp) (by simp)⟩ (by omega) (blk_new _ _) rfl (by have := Hb2.out.lt; omega) (by have := Hb2.out.lt; simp; omega) (fun g hg => by have := (Hv.out g hg).1; have := Hf2.out.size; simp; omega)).mono ?_); rw [Ht8.out])
    rintro e w3 ⟨rfl, ⟨rd3, hb3⟩, hp3, hf3⟩
    have hf3' : Fr [bb] w2 w3 := ((Fr.refl [bb] w2).alloc _).trans hf3 (by intro i hi hlt; simp at hi hlt; rcases hi with rfl | rfl; simp; omega)
    have Hp3 : Hid (PC w3 pb bb total ev mb cv fv M) := Hp2.out.fr hf3' (by simpa using Hd1.out)
    have e1 : w3.cell? ⟨pb, 7, none⟩ = some (.int .u32 (M : Int)) := blk_cell Hp3.out 7
    have e2 : w3.frozen? ⟨pb, 7, none⟩ = false := blk_free Hp3.out 7
    have q3 : w3.heap[w2.heap.size]? = some (.cells #[.int .u32 (n : Int)] 72 (0, 0)) := by simpa using hp3
    have q4 : (w3.setCell ⟨pb, 7, none⟩ (.int .u32 ((M : Int) - 4))).heap[w2.heap.size]? = some (.cells #[.int .u32 (n : Int)] 72 (0, 0)) := blk_set_other q3 (by have := lt_heap Hp2.out; omega)
    have e3 : (w3.setCell ⟨pb, 7, none⟩ (.int .u32 ((M : Int) - 4))).cell? ⟨w2.heap.size, 0, none⟩ = some (.int .u32 (n : Int)) := by rw [blk_cell q4]; rfl
    have HP4 : Hid (PC (w3.setCell ⟨pb, 7, none⟩ (.int .u32 ((M : Int) - 4))) pb bb total ev mb cv fv L) := by rw [HML.out]; exact Hp3.out.setLen L
    have Hb3 := Lib.hid hb3
    have Hf3 := Lib.hid hf3'
    clear hb3 hp3 hf3 hf3' q3 c1' c7 d1
    have k9 : (w3.setCell ⟨pb, 7, none⟩ (.int .u32 ((M : Int) - 4))).cell? ⟨pb, 9, none⟩ = some (.int .u64 0) := blk_cell HP4.out 9
    go_wp2_with (go_at_call 83; go_must (refine (cieEntry_no pb bb total ev mb cv fv L n hn _ HP4.out).mono ?_); rintro e w' ⟨rfl, rfl⟩)
    have hf4 : Fr [pb] w3 (w3.setCell ⟨pb, 7, none⟩ (.int .u32 ((M : Int) - 4))) := (Fr.refl _ _).setCell (.inl (by simp)) _
    have hb4 : BufR (w3.setCell ⟨pb, 7, none⟩ (.int .u32 ((M : Int) - 4))) bb v D (off + 4 + 4) rd3 := Hb3.out.fr hf4 (by simpa using Hd1.out.symm) (fun g hg => by have := (Hv.out g hg).2.1; simpa using this)
    generalize w3.setCell ⟨pb, 7, none⟩ (.int .u32 ((M : Int) - 4)) = w4 at *
    have Hb4 := Lib.hid hb4
    have HF4 : Hid (Fr [pb, bb] w w4) := (Hf2.out.trans (Hf3.out.mono (bs := [pb, bb]) (by simp)) (fun i h _ => h)).trans (hf4.mono (bs := [pb, bb]) (by simp)) (fun i h _ => h)
    have HM4 : Hid (MapIs w4 mb .i64 f) := Hm.out.fr HF4.out (by simpa using ⟨Hd2.out.symm, Hd3.out.symm⟩)
    clear hb4 hf4 e1 e2 q4 k9
    have k4 : w4.cell? ⟨pb, 4, none⟩ = some (.map (some mb)) := blk_cell HP4.out 4
    have hwn : IntKind.i64.wrap (n : Int) = (n : Int) := IntWalk.i64_in _ (by omega)
    have hlk : (Instr.lookup 147 (.map (some mb)) (.int .i64 (n : Int)) false).run Try.prog w4.drew = .ok (.pointer (some ⟨cb, 0, none⟩)) w4.drew := by
      have := MapIs.lookup (P := Try.prog) (HM4.out.fr (Fr.drew (Fr.refl [] w4)) (by simp)) Try.underlying147 Try.underlying3 (n : Int) (.pointer none) (by kernel_rfl) false
      rw [Hfn.out] at this; exact this
    go_region_held3 (fun w' => w'.cell? ⟨pb, 4, none⟩ = some (.map (some mb)) ∧ w'.cell? ⟨w2.heap.size, 0, none⟩ = some (.int .u32 (n : Int)))
      (exact ⟨k4, e3⟩)
      (fail)
    all_goals
      have hf5 : Fr [] w4 w4.drew := Fr.drew (Fr.refl [] w4)
      have hP5 : PC w4.drew pb bb total ev mb cv fv L := HP4.out
      have hB5 : BufR w4.drew bb v D (off + 4 + 4) rd3 := Hb4.out.fr hf5 (by simp) (by simp)
      clear hlk k4 e3 hwn
      generalize w4.drew = w5 at *
      have HP5 := Lib.hid hP5
      have HB5 := Lib.hid hB5
      have HF5 : Hid (Fr [pb, bb] w w5) := HF4.out.then hf5
      clear hf5 hP5 hB5
      have k7 : w5.cell? ⟨pb, 7, none⟩ = some (.int .u32 (L : Int)) := blk_cell HP5.out 7
      have hq : ∀ (a : Addr) (w : World), (binOp .eql 148 (.pointer (some a)) (.pointer none)).run Try.prog w = .ok (.bool false) w := fun _ _ => by kernel_rfl
      have s6 : ∀ o, (w5.alloc o).cell? ⟨pb, 6, none⟩ = some fv := fun o => ((Fr.refl [] w5).alloc o).cell (blk_cell HP5.out 6) (by simp)
      have z6 : ∀ o, (w5.alloc o).frozen? ⟨pb, 6, none⟩ = false := fun o => blk_free (((Fr.refl [] w5).alloc o).get HP5.out (by simp)) 6
      go_wp2_with fail
      go_ret
      have hG6 : Fr [pb] w5 ((w5.alloc (.cells (fdeNew L cb) 154)).setCell ⟨pb, 6, none⟩ (.pointer (some ⟨w5.heap.size, 0, none⟩))) := ((Fr.refl [pb] w5).alloc _).setCell (.inl (by simp)) _
      refine ⟨rfl, w5.heap.size, HF5.out.size, PC.setFrame (((Fr.refl [] w5).alloc _).get HP5.out (by simp)) _, ?_, ⟨_, HB5.out.fr hG6 (by simpa using Hd1.out.symm) (fun g hg => by have := (Hv.out g hg).2.1; simpa using this)⟩, HF5.out.trans (hG6.mono (bs := [pb, bb]) (by simp)) (fun i h _ => h)⟩
      exact blk_set_other (blk_new w5 _) (by have := lt_heap HP5.out; omega)
end Go.Proofs.Ytahohmdfllgedaa
