/- addrSum, readEncodedPtr at the plain encoding. -/
import Derived.Test.YtahohmdfllgedaaPars4
namespace Go.Proofs.Ytahohmdfllgedaa
open Go.RowKit

set_option maxRecDepth 100000 in
set_option maxHeartbeats 2000000 in
theorem addrSum_any (x : Int) (b : Nat) (v : Value) (l : List UInt8) (off : Nat) (w : World) (h : RdrR w b v l off) :
    Calls Try.prog 120 #[.int .u64 x, .pointer (some ⟨b, 0, none⟩)] w fun e w' => (∃ y, e = .returned (.int .u64 y)) ∧ RdrR w' b v l off ∧ Fr [b] w w' := by
  have H := Lib.hid h
  clear h
  go_enter Try.func120, Try.ntmps120
  go_wp2_with (go_at_call 121; refine (RdrSeek_zero b v l off _ H.out).mono ?_)
  rintro e w' ⟨rfl, hb, hf⟩
  have Hb := Lib.hid hb
  have Hf := Lib.hid hf
  clear hb hf
  go_wp2_with fail
  go_ret
  exact ⟨⟨_, rfl⟩, Hb.out, Hf.out⟩

set_option maxRecDepth 100000 in
set_option maxHeartbeats 4000000 in
theorem readEncodedPtr_zero (pb bb total : Nat) (ev : Value) (mb : Nat) (cv fv : Value) (len : Nat) (x : Int) (b : Nat) (v : Value) (l : List UInt8) (off : Nat) (w : World) (hp : PC w pb bb total ev mb cv fv len) (h : RdrR w b v l off) (hl : off + 8 ≤ l.length)
    (hv : ∀ g, v.ownBlock = some g → g < w.heap.size) :
    Calls Try.prog 118 #[.pointer (some ⟨pb, 0, none⟩), .int .u64 x, .iface 207 (.pointer (some ⟨b, 0, none⟩)), .int .u8 0] w fun e w' =>
      e = .returned (.int .u64 ((leval ((l.drop off).take 8) : Nat) : Int)) ∧ RdrR w' b v l (off + 8) ∧ Fr [b] w w' := by
  have c8 : w.cell? ⟨pb, 8, none⟩ = some (.int .i64 8) := blk_cell hp 8
  have hb := lt_heap h.1
  have H := Lib.hid h
  have Hv := Lib.hid hv
  obtain ⟨val, hval⟩ : ∃ val, leval ((l.drop off).take 8) = val := ⟨_, rfl⟩
  rw [hval]
  have Hval := Lib.hid hval
  have hb0 : bits .and .u8 0 240 = 0 := by decide +kernel
  clear h hv hp hval
  go_enter Try.func118, Try.ntmps118
  go_wp2_with (go_at_call 124; go_must (refine (ReadUintRaw_8 false b v l off _ H.out hl hb Hv.out).mono ?_); rw [Hval.out]; rintro e w2 ⟨rfl, hb2, hf2⟩; have Hb2 := Lib.hid hb2; have Hf2 := Lib.hid hf2; clear hb2 hf2)
  go_ret
  exact ⟨rfl, Hb2.out, Hf2.out⟩

theorem slicePF : SliceT Try.prog 89 96 (.pointer none) 1 8 := ⟨Try.underlying89, by kernel_rfl, rfl, by decide⟩

/-- A frame's entry in the making. -/
structure FI (bs : List Nat) (w0 w : World) (pb bb total : Nat) (ev : Value) (mb fb rb : Nat) (cv : Value) (L : Nat) (cs : Array Value) (vb : Value) (body : List UInt8) (off : Nat) : Prop where
  pc : PC w pb bb total ev mb cv (.pointer (some ⟨fb, 0, none⟩)) L
  fd : w.heap[fb]? = some (.cells cs 154 (0, 0))
  rd : RdrR w rb vb body off
  fr : Fr bs w0 w
  m1 : pb ∈ bs
  m2 : fb ∈ bs
  d1 : pb ≠ fb
  d2 : rb ≠ pb
  d3 : rb ≠ fb
  v1 : ∀ g, vb.ownBlock = some g → g ≠ fb ∧ g ≠ pb
  v2 : ∀ g, vb.ownBlock = some g → g < w0.heap.size
  nw : w0.heap.size ≤ rb
section
variable {bs : List Nat} {w0 w w' : World} {pb bb total : Nat} {ev : Value} {mb fb rb : Nat} {cv : Value} {L : Nat} {cs : Array Value} {vb : Value} {body : List UInt8} {off off' : Nat}
theorem FI.call (h : FI bs w0 w pb bb total ev mb fb rb cv L cs vb body off) (hb : RdrR w' rb vb body off') (hf : Fr [rb] w w') : FI bs w0 w' pb bb total ev mb fb rb cv L cs vb body off' :=
  ⟨h.pc.fr hf (by simpa using h.d2.symm), hf.get h.fd (by simpa using h.d3.symm), hb, h.fr.trans hf (fun i hi hlt => by simp at hi; have := h.nw; omega), h.m1, h.m2, h.d1, h.d2, h.d3, h.v1, h.v2, h.nw⟩
theorem FI.idle (h : FI bs w0 w pb bb total ev mb fb rb cv L cs vb body off) (hf : Fr [] w w') : FI bs w0 w' pb bb total ev mb fb rb cv L cs vb body off :=
  ⟨h.pc.fr hf (by simp), hf.get h.fd (by simp), h.rd.fr hf (by simp) (by simp), h.fr.then hf, h.m1, h.m2, h.d1, h.d2, h.d3, h.v1, h.v2, h.nw⟩
theorem FI.store (h : FI bs w0 w pb bb total ev mb fb rb cv L cs vb body off) (k : Nat) (u : Value) : FI bs w0 (w.setCell ⟨fb, k, none⟩ u) pb bb total ev mb fb rb cv L (cs.setIfInBounds k u) vb body off := by
  have hf : Fr [fb] w (w.setCell ⟨fb, k, none⟩ u) := (Fr.refl _ _).setCell (.inl (by simp)) _
  exact ⟨h.pc.fr hf (by simpa using h.d1), blk_set h.fd k u, h.rd.fr hf (by simpa using h.d3) (fun g hg => by simpa using (h.v1 g hg).1), h.fr.trans hf (fun i hi _ => by simp at hi; subst hi; first | exact h.m1 | exact h.m2), h.m1, h.m2, h.d1, h.d2, h.d3, h.v1, h.v2, h.nw⟩
theorem FI.setEntries (h : FI bs w0 w pb bb total ev mb fb rb cv L cs vb body off) (n : Value) : FI bs w0 (w.setCell ⟨pb, 3, none⟩ n) pb bb total n mb fb rb cv L cs vb body off := by
  have hf : Fr [pb] w (w.setCell ⟨pb, 3, none⟩ n) := (Fr.refl _ _).setCell (.inl (by simp)) _
  exact ⟨h.pc.setEntries n, hf.get h.fd (by simpa using h.d1.symm), h.rd.fr hf (by simpa using h.d2) (fun g hg => by simpa using (h.v1 g hg).2), h.fr.trans hf (fun i hi _ => by simp at hi; subst hi; first | exact h.m1 | exact h.m2), h.m1, h.m2, h.d1, h.d2, h.d3, h.v1, h.v2, h.nw⟩
theorem FI.setLen (h : FI bs w0 w pb bb total ev mb fb rb cv L cs vb body off) (n : Nat) : FI bs w0 (w.setCell ⟨pb, 7, none⟩ (.int .u32 (n : Int))) pb bb total ev mb fb rb cv n cs vb body off := by
  have hf : Fr [pb] w (w.setCell ⟨pb, 7, none⟩ (.int .u32 (n : Int))) := (Fr.refl _ _).setCell (.inl (by simp)) _
  exact ⟨h.pc.setLen n, hf.get h.fd (by simpa using h.d1.symm), h.rd.fr hf (by simpa using h.d2) (fun g hg => by simpa using (h.v1 g hg).2), h.fr.trans hf (fun i hi _ => by simp at hi; subst hi; first | exact h.m1 | exact h.m2), h.m1, h.m2, h.d1, h.d2, h.d3, h.v1, h.v2, h.nw⟩
/-- Behind an append to a row elsewhere. -/
theorem FI.app (h : FI bs w0 w pb bb total ev mb fb rb cv L cs vb body off) {o : List Nat} (hf : Fr o w w') (ho : ∀ k ∈ o, k ≠ pb ∧ k ≠ fb ∧ k ≠ rb ∧ vb.ownBlock ≠ some k) : FI (o ++ bs) w0 w' pb bb total ev mb fb rb cv L cs vb body off :=
  ⟨h.pc.fr hf (fun hk => (ho _ hk).1 rfl), hf.get h.fd (fun hk => (ho _ hk).2.1 rfl), h.rd.fr hf (fun hk => (ho _ hk).2.2.1 rfl) (fun _ hg hk => (ho _ hk).2.2.2 hg),
    (h.fr.mono (bs := o ++ bs) (fun _ hi _ => List.mem_append.2 (.inr hi))).trans hf (fun _ hi _ => List.mem_append.2 (.inl hi)), List.mem_append.2 (.inr h.m1), List.mem_append.2 (.inr h.m2), h.d1, h.d2, h.d3, h.v1, h.v2, h.nw⟩
end
end Go.Proofs.Ytahohmdfllgedaa
