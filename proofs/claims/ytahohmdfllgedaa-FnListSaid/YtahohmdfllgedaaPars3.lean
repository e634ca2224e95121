/- The buffer's rest; parseCIE. -/
import Derived.Test.YtahohmdfllgedaaPars2
import Derived.Test.YtahohmdfllgedaaSlebD
namespace Go.Proofs.Ytahohmdfllgedaa
open Go.RowKit

set_option maxRecDepth 100000 in
set_option maxHeartbeats 2000000 in
theorem BufBytes_r (b : Nat) (v : Value) (l : List UInt8) (off : Nat) (rd : Bool) (w : World) (h : BufR w b v l off rd) (hp : 0 < l.length) :
    Calls Try.prog 37 #[.pointer (some ⟨b, 0, none⟩)] w fun e w' => (∃ a c, e = .returned (.slice a (l.length - off) c) ∧ Sl w (.slice a (l.length - off) c) (vbs (l.drop off)) ∧
      (∀ g, (Value.slice a (l.length - off) c).ownBlock = some g → v.ownBlock = some g)) ∧ ∃ k, w' = w.drewN k := by
  obtain ⟨hb, hs, hne, ho, hl⟩ := h
  obtain ⟨a, cc, rfl, h1, h2, h3, h4⟩ := hs.shape
  obtain ⟨gs, os, rfl, hc⟩ := h3 hp
  unfold maxLen at h2
  have c0 : w.cell? ⟨b, 0, none⟩ = some (.slice (some ⟨gs, os, none⟩) l.length cc) := by rw [blk_cell hb]; rfl
  have c1 : w.cell? ⟨b, 1, none⟩ = some (.int .i64 (off : Int)) := by rw [blk_cell hb]; rfl
  have Hc : Hid (Cells w gs (os + off) (vbs (l.drop off))) := by have := hc.drop off; show Cells _ _ _ _; simpa [List.map_drop] using this
  have Hl : Hid ((vbs (l.drop off)).length = l.length - off) := by show _ = _; simp
  have hlen : (off : Int) ≤ (l.length : Int) := by omega
  have hcap : (off : Int) ≤ (cc : Int) := by omega
  have H1 := Lib.hid h1
  have H2 := Lib.hid h2
  clear hb hs hne h3 h4 hc
  by_cases hcc : cc = off
  · subst hcc
    have hz : l.length = cc := by omega
    have Hz := Lib.hid hz
    clear hz
    go_enter Try.func37, Try.ntmps37
    go_wp2_with fail
    go_quiet (fail)
    go_wp2
    go_ret
    have hz0 : l.length - cc = 0 := by have := Hz.out; omega
    have hz1 : l.drop cc = [] := List.eq_nil_of_length_eq_zero (by simpa using hz0)
    rw [hz0, hz1]
    exact ⟨⟨_, _, rfl, sl_mk rfl (by omega) (by unfold maxLen; omega) (fun i v hi => by simp at hi), fun g hg => hg⟩, _, rfl⟩
  · go_enter Try.func37, Try.ntmps37
    go_wp2_with fail
    go_quiet (fail)
    go_wp2
    go_ret
    exact ⟨⟨_, _, rfl, sl_mk Hl.out.symm (by have := H1.out; omega) (by unfold maxLen; have := H2.out; omega) Hc.out, fun g hg => hg⟩, _, rfl⟩

/-- A common entry in the making: the entry's block, the buffer over its bytes. -/
structure CI (w0 w : World) (pb bb total : Nat) (ev : Value) (mb cb nb : Nat) (fv : Value) (L : Nat) (cs : Array Value) (vb : Value) (body : List UInt8) (off : Nat) : Prop where
  pc : PC w pb bb total ev mb (.pointer (some ⟨cb, 0, none⟩)) fv L
  ci : w.heap[cb]? = some (.cells cs 181 (0, 0))
  bf : ∃ rd, BufR w nb vb body off rd
  fr : Fr [pb, cb] w0 w
  d1 : pb ≠ cb
  d2 : nb ≠ pb
  d3 : nb ≠ cb
  v1 : ∀ g, vb.ownBlock = some g → g ≠ cb ∧ g ≠ pb
  nw : w0.heap.size ≤ nb

section
variable {w0 w w' : World} {pb bb total : Nat} {ev : Value} {mb cb nb : Nat} {fv : Value} {L : Nat} {cs : Array Value} {vb : Value} {body : List UInt8} {off off' : Nat}
/-- Behind a call that read from the buffer. -/
theorem CI.call (h : CI w0 w pb bb total ev mb cb nb fv L cs vb body off) {rd' : Bool} (hb : BufR w' nb vb body off' rd') (hf : Fr [nb] w w') : CI w0 w' pb bb total ev mb cb nb fv L cs vb body off' :=
  ⟨h.pc.fr hf (by simpa using h.d2.symm), hf.get h.ci (by simpa using h.d3.symm), ⟨_, hb⟩, h.fr.trans hf (fun i hi hlt => by simp at hi; have := h.nw; omega), h.d1, h.d2, h.d3, h.v1, h.nw⟩
/-- Behind a store into the entry. -/
theorem CI.store (h : CI w0 w pb bb total ev mb cb nb fv L cs vb body off) (k : Nat) (u : Value) : CI w0 (w.setCell ⟨cb, k, none⟩ u) pb bb total ev mb cb nb fv L (cs.setIfInBounds k u) vb body off := by
  have hf : Fr [cb] w (w.setCell ⟨cb, k, none⟩ u) := (Fr.refl _ _).setCell (.inl (by simp)) _
  obtain ⟨rd, hb⟩ := h.bf
  exact ⟨h.pc.fr hf (by simpa using h.d1), blk_set h.ci k u, ⟨rd, hb.fr hf (by simpa using h.d3) (fun g hg => by simpa using (h.v1 g hg).1)⟩, h.fr.trans hf (fun i hi _ => by simp at hi; simp [hi]), h.d1, h.d2, h.d3, h.v1, h.nw⟩
theorem CI.idle (h : CI w0 w pb bb total ev mb cb nb fv L cs vb body off) (hf : Fr [] w w') : CI w0 w' pb bb total ev mb cb nb fv L cs vb body off := by
  obtain ⟨rd, hb⟩ := h.bf
  exact ⟨h.pc.fr hf (by simp), hf.get h.ci (by simp), ⟨rd, hb.fr hf (by simp) (by simp)⟩, h.fr.then hf, h.d1, h.d2, h.d3, h.v1, h.nw⟩
end

end Go.Proofs.Ytahohmdfllgedaa
