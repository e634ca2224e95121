/- ReadString, where the text is empty. -/
import Derived.Test.YtahohmdfllgedaaIo4
import Derived.Test.YtahohmdfllgedaaImp
namespace Go.Proofs.Ytahohmdfllgedaa
open Go.RowKit

set_option maxRecDepth 100000 in
set_option maxHeartbeats 4000000 in
theorem BufReadString_empty (b : Nat) (v : Value) (l : List UInt8) (off : Nat) (rd : Bool) (w : World) (h : BufR w b v l off rd) (ho : off < l.length) (h0 : l[off] = 0) :
    Calls Try.prog 130 #[.pointer (some ⟨b, 0, none⟩), .int .u8 0] w fun e w' =>
      e = .returned (.tuple #[.string ⟨#[0]⟩, .nilIface]) ∧ BufR w' b v l (off + 1) true ∧ Fr [b] w w' := by
  obtain ⟨hb, hs, hne, -, hl⟩ := h
  obtain ⟨a, cc, rfl, h1, h2, h3, -⟩ := hs.shape
  obtain ⟨gs, os, rfl, hc⟩ := h3 (by omega)
  unfold maxLen at h2
  have c0 : w.cell? ⟨b, 0, none⟩ = some (.slice (some ⟨gs, os, none⟩) l.length cc) := by rw [blk_cell hb]; rfl
  have c1 : w.cell? ⟨b, 1, none⟩ = some (.int .i64 (off : Int)) := by rw [blk_cell hb]; rfl
  have c2 : w.cell? ⟨b, 2, none⟩ = some (.bool rd) := by rw [blk_cell hb]; rfl
  have g1 : w.frozen? ⟨b, 1, none⟩ = false := blk_free hb _
  have g2 : w.frozen? ⟨b, 2, none⟩ = false := blk_free hb _
  have cx : w.cell? ⟨gs, os + off, none⟩ = some (.int .u8 0) := by rw [cell_vb hc off ho, h0]; rfl
  have hsl : ∀ w', Fr [] w w' → Sl w' (.slice (some ⟨gs, os + off, none⟩) 1 (cc - off)) (vbs [0]) := fun w' f =>
    sl_mk rfl (by omega) (by unfold maxLen; omega) (fun i u hi => by
      cases i with
      | zero => simp at hi; subst hi; exact f.cell cx (by simp)
      | succ i => simp at hi)
  have HCV : Hid (∀ w', Fr [] w w' → (convert 23 9 (.slice (some ⟨gs, os + off, none⟩) 1 (cc - off))).run Try.prog w' = .ok (.string ⟨#[0]⟩) w') := fun w' f => conv_sl (hsl w' f)
  have Hb := Lib.hid hb
  have Hs := Lib.hid hs
  have Hne := Lib.hid hne
  have hlt : (off : Int) < (l.length : Int) := by omega
  have hcap : (off : Int) ≤ (cc : Int) := by omega
  have hcap1 : (off : Int) + 1 ≤ (cc : Int) := by omega
  have hcap2 : ¬ cc = off := by omega
  have E1 : Hid (IntKind.i64.wrap ((off : Int) + 1) = (off : Int) + 1) := IntWalk.i64_in _ (by omega)
  have E2 : Hid (((off : Int) + 1).toNat = off + 1) := by show _ = _; omega
  have E3 : Hid (off + 1 - off = 1) := by show _ = _; omega
  clear hb hs hne h1 h3 hc hsl h0
  go_enter Try.func130, Try.ntmps130
  go_wp2_with fail
  refine wp_loop_rounds 1 ?_
  rw [rounds_succ]
  go_wp2_with fail
  have e1 := E1.out
  have e2 := E2.out
  have e3 := E3.out
  have hb3 : (off : Int) ≤ (off : Int) + 1 := by omega
  have hb4 : (0 : Int) ≤ (off : Int) := by omega
  have hb5 : (0 : Int) ≤ (off : Int) + 1 := by omega
  go_region_held3 (fun w' => w'.cell? ⟨b, 0, none⟩ = some (.slice (some ⟨gs, os, none⟩) l.length cc) ∧ w'.cell? ⟨b, 1, none⟩ = some (.int .i64 (off : Int)) ∧
      (convert 23 9 (.slice (some ⟨gs, os + off, none⟩) 1 (cc - off))).run Try.prog w' = .ok (.string ⟨#[0]⟩) w')
    (exact ⟨c0, c1, HCV.out _ (Fr.drew (Fr.refl [] w))⟩) (fail)
  all_goals
    clear e1 e2 e3
    go_wp2_with fail
    go_ret2
    have f : Fr [b] w ((w.drew.setCell ⟨b, 1, none⟩ (.int .i64 ((off : Int) + 1))).setCell ⟨b, 2, none⟩ (.bool true)) := (((Fr.refl _ _).drew).setCell (.inl (by simp)) _).setCell (.inl (by simp)) _
    refine ⟨rfl, ⟨?_, Hs.out.fr f (by intro g hg; simp; rintro rfl; exact Hne.out hg), Hne.out, by omega, hl⟩, f⟩
    exact blk_set (w := w.setCell ⟨b, 1, none⟩ (.int .i64 ((off : Int) + 1))) (blk_set (w := w) Hb.out 1 _) 2 (.bool true)

set_option maxRecDepth 100000 in
set_option maxHeartbeats 4000000 in
theorem uReadString_empty (b : Nat) (v : Value) (l : List UInt8) (off : Nat) (rd : Bool) (w : World) (h : BufR w b v l off rd) (ho : off < l.length) (h0 : l[off] = 0) :
    Calls Try.prog 116 #[.pointer (some ⟨b, 0, none⟩)] w fun e w' =>
      e = .returned (.tuple #[.string ⟨#[]⟩, .nilIface]) ∧ BufR w' b v l (off + 1) true ∧ Fr [b] w w' := by
  have H := Lib.hid h
  have H0 := Lib.hid h0
  clear h h0
  go_enter Try.func116, Try.ntmps116
  go_wp2_with (go_at_call 130; refine (BufReadString_empty b v l off rd w H.out ho H0.out).mono ?_)
  rintro e w2 ⟨rfl, hb2, hf2⟩
  have Hb2 := Lib.hid hb2
  have Hf2 := Lib.hid hf2
  clear hb2 hf2
  go_wp2_with fail
  go_ret2
  exact ⟨rfl, Hb2.out, Hf2.out⟩
end Go.Proofs.Ytahohmdfllgedaa
