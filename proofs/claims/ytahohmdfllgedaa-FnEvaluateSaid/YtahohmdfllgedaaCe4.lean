/- The machine: deref, stackvalue where the stack is empty. Printed by gen_eop6.py.
The machine's remaining operations beside the reference's. Printed by gen_eoh.py.
laws.FnEvaluate: whatever the input, it returns true.
What comes in as call frame information: its data, opened.
What comes in as an expression and its world: its data, opened. -/
import Derived.Test.YtahohmdfllgedaaCe0
import Derived.Test.YtahohmdfllgedaaCe1
import Derived.Test.YtahohmdfllgedaaCe2
import Derived.Test.YtahohmdfllgedaaCe3
import Derived.Test.YtahohmdfllgedaaCa18
import Derived.Test.YtahohmdfllgedaaCa25
import Derived.Test.YtahohmdfllgedaaCa0
import Derived.Deep.Slices
import Derived.Deep.Fields
import Derived.ChangeSame
import Derived.Test.YtahohmdfllgedaaCa3
set_option linter.unusedVariables false
set_option linter.unusedSimpArgs false
namespace Go.Proofs.Ytahohmdfllgedaa
open Go.RowKit

set_option maxRecDepth 100000 in
set_option maxHeartbeats 4000000 in
theorem ostackvalue_err (D : CxD) (cb : Nat) (w : World) (ps : List LPiece) (p : Nat) (h : CxR D cb w [] ps p) :
    Calls Try.prog 111 #[.int .u8 159, .pointer (some ⟨cb, 0, none⟩)] w (ErrP D) := by
  obtain ⟨k, hk⟩ : ∃ k : List Int, k = [] := ⟨[], rfl⟩
  have hkl : k.length = 0 := by rw [hk]; rfl
  rw [← hk] at h
  obtain ⟨bb, bv, bl, off, rd, kv, qv, qs, hv⟩ := h
  obtain ⟨ka, kc, rfl⟩ := own_slice hv.own
  rw [hkl] at hv
  have c2 : w.cell? ⟨cb, 2, none⟩ = some (.slice ka 0 kc) := hv.cell 2
  have c0 : w.cell? ⟨cb, 0, none⟩ = some (.pointer (some ⟨bb, 0, none⟩)) := hv.cell 0
  have c4 : w.cell? ⟨cb, 4, none⟩ = some (vi 8) := hv.cell 4
  have c18 : w.cell? ⟨cb, 18, none⟩ = some D.rf := hv.cell 18
  have qF : ∀ w, (binOp .eql 165 D.rf .nilFunc).run Try.prog w = .ok (.bool false) w := fun _ => by kernel_rfl
  have Hv := Lib.hid hv
  clear hv hk
  go_enter Try.func111, Try.ntmps111
  go_wp2_with fail
  go_ret
  exact ⟨.inl ⟨_, _, rfl⟩, Hv.out.fr⟩

set_option maxRecDepth 100000 in
set_option maxHeartbeats 4000000 in
theorem oderef_6_empty (D : CxD) (cb : Nat) (w : World) (ps : List LPiece) (p : Nat) (h : CxR D cb w [] ps p) :
    Calls Try.prog 89 #[.int .u8 6, .pointer (some ⟨cb, 0, none⟩)] w (ErrP D) := by
  obtain ⟨k, hk⟩ : ∃ k : List Int, k = [] := ⟨[], rfl⟩
  have hkl : k.length = 0 := by rw [hk]; rfl
  rw [← hk] at h
  obtain ⟨bb, bv, bl, off, rd, kv, qv, qs, hv⟩ := h
  obtain ⟨ka, kc, rfl⟩ := own_slice hv.own
  rw [hkl] at hv
  have c2 : w.cell? ⟨cb, 2, none⟩ = some (.slice ka 0 kc) := hv.cell 2
  have c0 : w.cell? ⟨cb, 0, none⟩ = some (.pointer (some ⟨bb, 0, none⟩)) := hv.cell 0
  have c4 : w.cell? ⟨cb, 4, none⟩ = some (vi 8) := hv.cell 4
  have c18 : w.cell? ⟨cb, 18, none⟩ = some D.rf := hv.cell 18
  have qF : ∀ w, (binOp .eql 165 D.rf .nilFunc).run Try.prog w = .ok (.bool false) w := fun _ => by kernel_rfl
  have Hv := Lib.hid hv
  clear hv hk
  go_enter Try.func89, Try.ntmps89
  go_wp2_with fail
  go_ret
  exact ⟨.inl ⟨_, _, rfl⟩, Hv.out.fr⟩

set_option maxRecDepth 100000 in
set_option maxHeartbeats 4000000 in
theorem oderef_148_empty (D : CxD) (cb : Nat) (w : World) (ps : List LPiece) (p p' : Nat) (y : UInt8) (h : CxR D cb w [] ps p) (ha : AtC D p [y] p') :
    Calls Try.prog 89 #[.int .u8 148, .pointer (some ⟨cb, 0, none⟩)] w (ErrP D) := by
  obtain ⟨k, hk⟩ : ∃ k : List Int, k = [] := ⟨[], rfl⟩
  have hkl : k.length = 0 := by rw [hk]; rfl
  rw [← hk] at h
  obtain ⟨bb, bv, bl, off, rd, kv, qv, qs, hv⟩ := h
  obtain ⟨ka, kc, rfl⟩ := own_slice hv.own
  rw [hkl] at hv
  have c2 : w.cell? ⟨cb, 2, none⟩ = some (.slice ka 0 kc) := hv.cell 2
  have c0 : w.cell? ⟨cb, 0, none⟩ = some (.pointer (some ⟨bb, 0, none⟩)) := hv.cell 0
  have c4 : w.cell? ⟨cb, 4, none⟩ = some (vi 8) := hv.cell 4
  have c18 : w.cell? ⟨cb, 18, none⟩ = some D.rf := hv.cell 18
  have qF : ∀ w, (binOp .eql 165 D.rf .nilFunc).run Try.prog w = .ok (.bool false) w := fun _ => by kernel_rfl
  have Hv := Lib.hid hv
  have Ha := Lib.hid ha
  clear hv hk ha
  go_enter Try.func89, Try.ntmps89
  go_wp2_with (go_at_call 76; go_must (refine (ReadByte_y bb bv bl off rd _ y (D.code.drop p') Hv.out.buf (Hv.out.hp Ha.out)).mono ?_); rintro e w1 ⟨rfl, hb1, hf1⟩; have Hv1 := Lib.hid (Hv.out.past Ha.out (n := 1) rfl hb1 hf1); have d2 : w1.cell? ⟨cb, 2, none⟩ = some (.slice ka 0 kc) := Hv1.out.cell 2; clear hb1 hf1)
  go_ret
  exact ⟨.inl ⟨_, _, rfl⟩, Hv1.out.fr⟩
end Go.Proofs.Ytahohmdfllgedaa

namespace Go.Proofs.Ytahohmdfllgedaa
open Go.RowKit

theorem ofn (n : Nat) : (UInt8.ofNat (n % 256)).toNat = n % 256 := by simp
theorem one_cases (s : LSt) : (s.stack = [] ∧ (popS s).2.bad = true) ∨ ∃ ks v, s.stack = ks ++ [v] ∧ popS s = (v, { s with stack := ks }) := by
  rcases List.eq_nil_or_concat s.stack with hs | ⟨ks, v, hs⟩
  · exact .inl ⟨hs, by rw [popS_nil hs]; rfl⟩
  · have hs' : s.stack = ks ++ [v] := by simpa using hs
    exact .inr ⟨ks, v, hs', popS_snoc hs'⟩
theorem popS_bad {s : LSt} (h : s.bad = true) : (popS s).2.bad = true := by unfold popS; split <;> first | exact h | rfl
theorem three_cases (s : LSt) : (s.stack.length < 3 ∧ (popS (popS (popS s).2).2).2.bad = true) ∨ ∃ ks a b c, s.stack = ks ++ [a, b, c] ∧ popS s = (c, { s with stack := ks ++ [a, b] }) ∧ popS { s with stack := ks ++ [a, b] } = (b, { s with stack := ks ++ [a] }) ∧ popS { s with stack := ks ++ [a] } = (a, { s with stack := ks }) := by
  rcases one_cases s with ⟨h1, h2⟩ | ⟨k1, c, h1, h2⟩
  · exact .inl ⟨by rw [h1]; decide, popS_bad (popS_bad h2)⟩
  · rw [h2]
    rcases two_cases { s with stack := k1 } with ⟨h3, h4⟩ | ⟨ks, a, b, h3, h4, h5⟩
    · exact .inl ⟨by rw [h1]; simp at h3 ⊢; omega, h4⟩
    · simp only at h3
      subst h3
      exact .inr ⟨ks, a, b, c, by rw [h1]; simp, rfl, h4, h5⟩
theorem popS_left (s : LSt) : (popS s).2.left = s.left := by unfold popS; split <;> rfl
theorem doS_40 {x : LWorld} {c : LCall} {s : LSt} (h : c.op = 40) (hl : s.left = true) : (doS x c s).left = true := by
  unfold doS
  refine iteInduction (motive := fun y : LSt => y.left = true) (fun _ => rfl) (fun _ => ?_)
  · repeat rw [if_neg (by rw [h]; decide)]
    unfold operateS
    repeat rw [if_neg (by rw [h]; decide)]
    unfold twoS
    rw [h]
    repeat rw [if_neg (by decide)]
    rw [popS_left, popS_left, hl]
theorem AtC.split {D : CxD} {p p' : Nat} {b1 b2 : List UInt8} (h : AtC D p (b1 ++ b2) p') : AtC D p b1 (p + b1.length) ∧ AtC D (p + b1.length) b2 p' := by
  have e : D.code.drop (p + b1.length) = b2 ++ D.code.drop p' := by rw [← List.drop_drop, h.bytes]; simp
  have h1 := h.add
  have h2 := h.le
  simp only [List.length_append] at h1
  exact ⟨⟨by rw [e, h.bytes, List.append_assoc], rfl, by omega⟩, ⟨e, by omega, h2⟩⟩
theorem good_ofp {D : CxD} {x : LWorld} {l : List LCall} {k : Nat} (hk : k < l.length) (f op : Nat) (ho : l[k].op = (op : Int)) (h256 : op < 256) (h150 : op ≠ 150) (h1 : op ≠ 40) (h2 : op ≠ 47) (hlut : ∀ w, OplutP f op w)
    (hcf : ∀ a b w, (callFunc f #[a, b]).run Try.prog w = .ok (.enter f #[a, b]) w)
    (hc : ∀ cb w s, CxR D cb w s.stack s.pieces (pl l k + 1) → s.loc = none → s.left = false → s.bad = false → s.pieces.length ≤ 4000 → (doS x l[k] s).left = false →
      (doS x l[k] s).loc = none ∧ (doS x l[k] s).bad = false ∧ Calls Try.prog f #[.int .u8 (op : Int), .pointer (some ⟨cb, 0, none⟩)] w (OkP D cb (doS x l[k] s).stack (doS x l[k] s).pieces (pl l (k + 1)))) : OpGood D x l k l[k] := by
  refine .inr ⟨f, op, ho, h256, h150, hlut, hcf, fun cb w s fuel o hcx hloc hR => ?_⟩
  obtain ⟨hl, hb⟩ := hR.step hk hloc (by rw [ho]; omega) (by rw [ho]; omega)
  obtain ⟨h3, h5, h4⟩ := hc cb w s hcx hloc hR.left hR.bad (by have := hR.l2; omega) hl
  rcases hb with ⟨hb, -⟩ | ⟨-, hb2⟩
  · rw [h5] at hb; cases hb
  · exact h4.mono fun e w' h => .ok hk hb2 h3 h
theorem u64_wrap_u (v : Int) : IntKind.u64.wrap v = ((u64of v : Nat) : Int) := by rw [IntKind.wrap_u64]; unfold u64of; omega
theorem good_8 {D : CxD} {x : LWorld} {l : List LCall} {k : Nat} (hk : k < l.length) (hcode : D.code = exprL l) (hkn : ∀ c ∈ l, knownB c.op c.a c.data.length = true) (hi : ∀ c ∈ l, i64 c.op ∧ i64 c.a ∧ i64 c.b) (hS : CxS D x) (hcfa : D.cfa = x.cfa) (hbase : D.base = x.base) (ho : l[k].op = 8) : OpGood D x l k l[k] :=
  have ha := (hi _ (List.getElem_mem hk)).2.1
  have hb2 := (hi _ (List.getElem_mem hk)).2.2
  have hkr := known_range (hkn _ (List.getElem_mem hk))
  good_of hk 90 8 ho (by decide) (by decide) (by decide) (by decide) oplut_8 (fun a b w => by kernel_rfl) fun cb w s hcx hloc hleft hbad hlen hdl => by
    have e : doS x l[k] s = pushS l[k].a s := by simp [doS, hloc, ho]
    rw [e] at hdl ⊢
    rw [ho] at hkr
    have hr : 0 ≤ l[k].a ∧ l[k].a < 256 := by simpa [knownR] using hkr
    have h1 := oconst1u_any D cb w s.stack s.pieces _ _ (UInt8.ofNat (u64of l[k].a % 256)) hcx (by omega) (atc hcode hk (by rw [ho]; show eopnd _ _ _ _ ++ [] = _; rw [List.append_nil]; rfl))
    have ev : (((UInt8.ofNat (u64of l[k].a % 256)).toNat : Nat) : Int) = l[k].a := by rw [ofn]; unfold u64of; omega
    rw [ev] at h1
    exact .inr ⟨hloc, hbad, h1⟩
theorem good_9 {D : CxD} {x : LWorld} {l : List LCall} {k : Nat} (hk : k < l.length) (hcode : D.code = exprL l) (hkn : ∀ c ∈ l, knownB c.op c.a c.data.length = true) (hi : ∀ c ∈ l, i64 c.op ∧ i64 c.a ∧ i64 c.b) (hS : CxS D x) (hcfa : D.cfa = x.cfa) (hbase : D.base = x.base) (ho : l[k].op = 9) : OpGood D x l k l[k] :=
  have ha := (hi _ (List.getElem_mem hk)).2.1
  have hb2 := (hi _ (List.getElem_mem hk)).2.2
  have hkr := known_range (hkn _ (List.getElem_mem hk))
  good_of hk 91 9 ho (by decide) (by decide) (by decide) (by decide) oplut_9 (fun a b w => by kernel_rfl) fun cb w s hcx hloc hleft hbad hlen hdl => by
    have e : doS x l[k] s = pushS l[k].a s := by simp [doS, hloc, ho]
    rw [e] at hdl ⊢
    rw [ho] at hkr
    have hr : -128 ≤ l[k].a ∧ l[k].a < 128 := by simpa [knownR] using hkr
    have ev : IntKind.i8.wrap (((UInt8.ofNat (u64of l[k].a % 256)).toNat : Nat) : Int) = l[k].a := by rw [ofn, iwrap8]; unfold u64of; omega
    exact .inr ⟨hloc, hbad, oconst1s_any D cb w s.stack s.pieces _ _ (UInt8.ofNat (u64of l[k].a % 256)) l[k].a hcx (by omega) (atc hcode hk (by rw [ho]; show eopnd _ _ _ _ ++ [] = _; rw [List.append_nil]; rfl)) ev ha⟩
theorem good_10 {D : CxD} {x : LWorld} {l : List LCall} {k : Nat} (hk : k < l.length) (hcode : D.code = exprL l) (hkn : ∀ c ∈ l, knownB c.op c.a c.data.length = true) (hi : ∀ c ∈ l, i64 c.op ∧ i64 c.a ∧ i64 c.b) (hS : CxS D x) (hcfa : D.cfa = x.cfa) (hbase : D.base = x.base) (ho : l[k].op = 10) : OpGood D x l k l[k] :=
  have ha := (hi _ (List.getElem_mem hk)).2.1
  have hb2 := (hi _ (List.getElem_mem hk)).2.2
  have hkr := known_range (hkn _ (List.getElem_mem hk))
  good_of hk 90 10 ho (by decide) (by decide) (by decide) (by decide) oplut_10 (fun a b w => by kernel_rfl) fun cb w s hcx hloc hleft hbad hlen hdl => by
    have e : doS x l[k] s = pushS l[k].a s := by simp [doS, hloc, ho]
    rw [e] at hdl ⊢
    rw [ho] at hkr
    have hr : 0 ≤ l[k].a ∧ l[k].a < 65536 := by simpa [knownR] using hkr
    have h1 := oconst2u_any D cb w s.stack s.pieces _ _ (leL (u64of l[k].a) 2) _ hcx (by omega) (atc hcode hk (by rw [ho]; show eopnd _ _ _ _ ++ [] = _; rw [List.append_nil]; rfl)) (leL_length _ _) rfl
    have ev : wrap64 ((leval (leL (u64of l[k].a) 2) : Nat) : Int) = l[k].a := by rw [leval_u64]; unfold wrap64 u64of; omega
    rw [ev] at h1
    exact .inr ⟨hloc, hbad, h1⟩
theorem good_12 {D : CxD} {x : LWorld} {l : List LCall} {k : Nat} (hk : k < l.length) (hcode : D.code = exprL l) (hkn : ∀ c ∈ l, knownB c.op c.a c.data.length = true) (hi : ∀ c ∈ l, i64 c.op ∧ i64 c.a ∧ i64 c.b) (hS : CxS D x) (hcfa : D.cfa = x.cfa) (hbase : D.base = x.base) (ho : l[k].op = 12) : OpGood D x l k l[k] :=
  have ha := (hi _ (List.getElem_mem hk)).2.1
  have hb2 := (hi _ (List.getElem_mem hk)).2.2
  have hkr := known_range (hkn _ (List.getElem_mem hk))
  good_of hk 90 12 ho (by decide) (by decide) (by decide) (by decide) oplut_12 (fun a b w => by kernel_rfl) fun cb w s hcx hloc hleft hbad hlen hdl => by
    have e : doS x l[k] s = pushS l[k].a s := by simp [doS, hloc, ho]
    rw [e] at hdl ⊢
    rw [ho] at hkr
    have hr : 0 ≤ l[k].a ∧ l[k].a < 4294967296 := by simpa [knownR] using hkr
    have h1 := oconst4u_any D cb w s.stack s.pieces _ _ (leL (u64of l[k].a) 4) _ hcx (by omega) (atc hcode hk (by rw [ho]; show eopnd _ _ _ _ ++ [] = _; rw [List.append_nil]; rfl)) (leL_length _ _) rfl
    have ev : wrap64 ((leval (leL (u64of l[k].a) 4) : Nat) : Int) = l[k].a := by rw [leval_u64]; unfold wrap64 u64of; omega
    rw [ev] at h1
    exact .inr ⟨hloc, hbad, h1⟩
theorem good_14 {D : CxD} {x : LWorld} {l : List LCall} {k : Nat} (hk : k < l.length) (hcode : D.code = exprL l) (hkn : ∀ c ∈ l, knownB c.op c.a c.data.length = true) (hi : ∀ c ∈ l, i64 c.op ∧ i64 c.a ∧ i64 c.b) (hS : CxS D x) (hcfa : D.cfa = x.cfa) (hbase : D.base = x.base) (ho : l[k].op = 14) : OpGood D x l k l[k] :=
  have ha := (hi _ (List.getElem_mem hk)).2.1
  have hb2 := (hi _ (List.getElem_mem hk)).2.2
  have hkr := known_range (hkn _ (List.getElem_mem hk))
  good_of hk 90 14 ho (by decide) (by decide) (by decide) (by decide) oplut_14 (fun a b w => by kernel_rfl) fun cb w s hcx hloc hleft hbad hlen hdl => by
    have e : doS x l[k] s = pushS l[k].a s := by simp [doS, hloc, ho]
    rw [e] at hdl ⊢
    rw [ho] at hkr
    have h1 := oconst8u_any D cb w s.stack s.pieces _ _ (leL (u64of l[k].a) 8) (u64of l[k].a) hcx (by omega) (atc hcode hk (by rw [ho]; show eopnd _ _ _ _ ++ [] = _; rw [List.append_nil]; rfl)) (leL_length _ _) (by rw [leval_leL]; exact Nat.mod_eq_of_lt (u64of_lt _))
    rw [wrap_u64of ha] at h1
    exact .inr ⟨hloc, hbad, h1⟩
theorem good_11 {D : CxD} {x : LWorld} {l : List LCall} {k : Nat} (hk : k < l.length) (hcode : D.code = exprL l) (hkn : ∀ c ∈ l, knownB c.op c.a c.data.length = true) (hi : ∀ c ∈ l, i64 c.op ∧ i64 c.a ∧ i64 c.b) (hS : CxS D x) (hcfa : D.cfa = x.cfa) (hbase : D.base = x.base) (ho : l[k].op = 11) : OpGood D x l k l[k] :=
  have ha := (hi _ (List.getElem_mem hk)).2.1
  have hb2 := (hi _ (List.getElem_mem hk)).2.2
  have hkr := known_range (hkn _ (List.getElem_mem hk))
  good_of hk 91 11 ho (by decide) (by decide) (by decide) (by decide) oplut_11 (fun a b w => by kernel_rfl) fun cb w s hcx hloc hleft hbad hlen hdl => by
    have e : doS x l[k] s = pushS l[k].a s := by simp [doS, hloc, ho]
    rw [e] at hdl ⊢
    rw [ho] at hkr
    have hr : -32768 ≤ l[k].a ∧ l[k].a < 32768 := by simpa [knownR] using hkr
    have ev : IntKind.i16.wrap ((leval (leL (u64of l[k].a) 2) : Nat) : Int) = l[k].a := by rw [leval_u64, iwrap16]; unfold u64of; omega
    exact .inr ⟨hloc, hbad, oconst2s_any D cb w s.stack s.pieces _ _ (leL (u64of l[k].a) 2) _ l[k].a hcx (by omega) (atc hcode hk (by rw [ho]; show eopnd _ _ _ _ ++ [] = _; rw [List.append_nil]; rfl)) (leL_length _ _) rfl ev ha⟩
theorem good_13 {D : CxD} {x : LWorld} {l : List LCall} {k : Nat} (hk : k < l.length) (hcode : D.code = exprL l) (hkn : ∀ c ∈ l, knownB c.op c.a c.data.length = true) (hi : ∀ c ∈ l, i64 c.op ∧ i64 c.a ∧ i64 c.b) (hS : CxS D x) (hcfa : D.cfa = x.cfa) (hbase : D.base = x.base) (ho : l[k].op = 13) : OpGood D x l k l[k] :=
  have ha := (hi _ (List.getElem_mem hk)).2.1
  have hb2 := (hi _ (List.getElem_mem hk)).2.2
  have hkr := known_range (hkn _ (List.getElem_mem hk))
  good_of hk 91 13 ho (by decide) (by decide) (by decide) (by decide) oplut_13 (fun a b w => by kernel_rfl) fun cb w s hcx hloc hleft hbad hlen hdl => by
    have e : doS x l[k] s = pushS l[k].a s := by simp [doS, hloc, ho]
    rw [e] at hdl ⊢
    rw [ho] at hkr
    have hr : -2147483648 ≤ l[k].a ∧ l[k].a < 2147483648 := by simpa [knownR] using hkr
    have ev : IntKind.i32.wrap ((leval (leL (u64of l[k].a) 4) : Nat) : Int) = l[k].a := by rw [leval_u64, IntKind.wrap_i32]; unfold u64of; omega
    exact .inr ⟨hloc, hbad, oconst4s_any D cb w s.stack s.pieces _ _ (leL (u64of l[k].a) 4) _ l[k].a hcx (by omega) (atc hcode hk (by rw [ho]; show eopnd _ _ _ _ ++ [] = _; rw [List.append_nil]; rfl)) (leL_length _ _) rfl ev ha⟩
theorem good_16 {D : CxD} {x : LWorld} {l : List LCall} {k : Nat} (hk : k < l.length) (hcode : D.code = exprL l) (hkn : ∀ c ∈ l, knownB c.op c.a c.data.length = true) (hi : ∀ c ∈ l, i64 c.op ∧ i64 c.a ∧ i64 c.b) (hS : CxS D x) (hcfa : D.cfa = x.cfa) (hbase : D.base = x.base) (ho : l[k].op = 16) : OpGood D x l k l[k] :=
  have ha := (hi _ (List.getElem_mem hk)).2.1
  have hb2 := (hi _ (List.getElem_mem hk)).2.2
  have hkr := known_range (hkn _ (List.getElem_mem hk))
  good_of hk 92 16 ho (by decide) (by decide) (by decide) (by decide) oplut_16 (fun a b w => by kernel_rfl) fun cb w s hcx hloc hleft hbad hlen hdl => by
    have e : doS x l[k] s = pushS l[k].a s := by simp [doS, hloc, ho]
    rw [e] at hdl ⊢
    rw [ho] at hkr
    have h1 := oconstu_any D cb w s.stack s.pieces _ _ (u64of l[k].a) hcx (by omega) (atc hcode hk (by rw [ho]; show eopnd _ _ _ _ ++ [] = _; rw [List.append_nil]; rfl)) (u64of_lt _)
    rw [wrap_u64of ha] at h1
    exact .inr ⟨hloc, hbad, h1⟩
theorem good_3 {D : CxD} {x : LWorld} {l : List LCall} {k : Nat} (hk : k < l.length) (hcode : D.code = exprL l) (hkn : ∀ c ∈ l, knownB c.op c.a c.data.length = true) (hi : ∀ c ∈ l, i64 c.op ∧ i64 c.a ∧ i64 c.b) (hS : CxS D x) (hcfa : D.cfa = x.cfa) (hbase : D.base = x.base) (ho : l[k].op = 3) : OpGood D x l k l[k] :=
  have ha := (hi _ (List.getElem_mem hk)).2.1
  have hb2 := (hi _ (List.getElem_mem hk)).2.2
  have hkr := known_range (hkn _ (List.getElem_mem hk))
  good_of hk 88 3 ho (by decide) (by decide) (by decide) (by decide) oplut_3 (fun a b w => by kernel_rfl) fun cb w s hcx hloc hleft hbad hlen hdl => by
    have e : doS x l[k] s = pushS l[k].a s := by simp [doS, hloc, ho]
    rw [e] at hdl ⊢
    rw [ho] at hkr
    have h1 := oaddr_any D cb w s.stack s.pieces _ _ (u64of l[k].a) (leL (u64of l[k].a) 8) hcx (by omega) (atc hcode hk (by rw [ho]; show eopnd _ _ _ _ ++ [] = _; rw [List.append_nil]; rfl)) (leL_length _ _) (by rw [leval_leL]; exact Nat.mod_eq_of_lt (u64of_lt _))
    rw [wrap_u64of ha] at h1
    exact .inr ⟨hloc, hbad, h1⟩
theorem good_145 {D : CxD} {x : LWorld} {l : List LCall} {k : Nat} (hk : k < l.length) (hcode : D.code = exprL l) (hkn : ∀ c ∈ l, knownB c.op c.a c.data.length = true) (hi : ∀ c ∈ l, i64 c.op ∧ i64 c.a ∧ i64 c.b) (hS : CxS D x) (hcfa : D.cfa = x.cfa) (hbase : D.base = x.base) (ho : l[k].op = 145) : OpGood D x l k l[k] :=
  have ha := (hi _ (List.getElem_mem hk)).2.1
  have hb2 := (hi _ (List.getElem_mem hk)).2.2
  have hkr := known_range (hkn _ (List.getElem_mem hk))
  good_of hk 107 145 ho (by decide) (by decide) (by decide) (by decide) oplut_145 (fun a b w => by kernel_rfl) fun cb w s hcx hloc hleft hbad hlen hdl => by
    have e : doS x l[k] s = pushS (wrap64 (x.base + l[k].a)) s := by simp [doS, hloc, ho]
    rw [e] at hdl ⊢
    rw [ho] at hkr
    have h1 := oframebase_any D cb w s.stack s.pieces _ _ l[k].a hcx (by omega) (atc hcode hk (by rw [ho]; show eopnd _ _ _ _ ++ [] = _; rw [List.append_nil]; rfl)) ha
    rw [hbase] at h1
    exact .inr ⟨hloc, hbad, h1⟩
theorem good_156 {D : CxD} {x : LWorld} {l : List LCall} {k : Nat} (hk : k < l.length) (hcode : D.code = exprL l) (hkn : ∀ c ∈ l, knownB c.op c.a c.data.length = true) (hi : ∀ c ∈ l, i64 c.op ∧ i64 c.a ∧ i64 c.b) (hS : CxS D x) (hcfa : D.cfa = x.cfa) (hbase : D.base = x.base) (ho : l[k].op = 156) : OpGood D x l k l[k] :=
  have ha := (hi _ (List.getElem_mem hk)).2.1
  have hb2 := (hi _ (List.getElem_mem hk)).2.2
  have hkr := known_range (hkn _ (List.getElem_mem hk))
  good_of hk 109 156 ho (by decide) (by decide) (by decide) (by decide) oplut_156 (fun a b w => by kernel_rfl) fun cb w s hcx hloc hleft hbad hlen hdl => by
    have e : doS x l[k] s = pushS x.cfa (if x.cfa = 0 then s.mkLeft else s) := by simp [doS, hloc, ho]
    rw [e] at hdl ⊢
    rw [ho] at hkr
    by_cases hc : x.cfa = 0
    · rw [if_pos hc] at hdl; cases hdl
    · rw [if_neg hc]
      have h1 := ocfa_any D cb w s.stack s.pieces _ hcx (by omega) (by rw [hcfa]; exact hc)
      rw [hcfa, atc0 hk (by rw [ho]; rfl)] at h1
      exact .inr ⟨hloc, hbad, h1⟩
theorem good_18 {D : CxD} {x : LWorld} {l : List LCall} {k : Nat} (hk : k < l.length) (hcode : D.code = exprL l) (hkn : ∀ c ∈ l, knownB c.op c.a c.data.length = true) (hi : ∀ c ∈ l, i64 c.op ∧ i64 c.a ∧ i64 c.b) (hS : CxS D x) (hcfa : D.cfa = x.cfa) (hbase : D.base = x.base) (ho : l[k].op = 18) : OpGood D x l k l[k] :=
  have ha := (hi _ (List.getElem_mem hk)).2.1
  have hb2 := (hi _ (List.getElem_mem hk)).2.2
  have hkr := known_range (hkn _ (List.getElem_mem hk))
  good_of hk 94 18 ho (by decide) (by decide) (by decide) (by decide) oplut_18 (fun a b w => by kernel_rfl) fun cb w s hcx hloc hleft hbad hlen hdl => by
    have e : doS x l[k] s = pushS (popS s).1 (pushS (popS s).1 (popS s).2) := by simp [doS, hloc, ho, operateS]
    rw [e] at hdl ⊢
    rw [ho] at hkr
    rw [← atc0 hk (by rw [ho]; rfl)]
    rcases one_cases s with ⟨h1, h2⟩ | ⟨ks, v, h1, h2⟩
    · exact .inl ⟨h2, odup_err D cb w s.stack s.pieces _ hcx (by rw [h1]; rfl)⟩
    · rw [h2]
      have h3 := odup_any D cb w s.stack s.pieces _ hcx (by omega) (by rw [h1]; simp)
      have e2 : s.stack[s.stack.length - 1]'(by rw [h1]; simp) = v := by simp [h1]
      rw [e2, h1] at h3
      exact .inr ⟨hloc, hbad, h3⟩
theorem good_19 {D : CxD} {x : LWorld} {l : List LCall} {k : Nat} (hk : k < l.length) (hcode : D.code = exprL l) (hkn : ∀ c ∈ l, knownB c.op c.a c.data.length = true) (hi : ∀ c ∈ l, i64 c.op ∧ i64 c.a ∧ i64 c.b) (hS : CxS D x) (hcfa : D.cfa = x.cfa) (hbase : D.base = x.base) (ho : l[k].op = 19) : OpGood D x l k l[k] :=
  have ha := (hi _ (List.getElem_mem hk)).2.1
  have hb2 := (hi _ (List.getElem_mem hk)).2.2
  have hkr := known_range (hkn _ (List.getElem_mem hk))
  good_of hk 95 19 ho (by decide) (by decide) (by decide) (by decide) oplut_19 (fun a b w => by kernel_rfl) fun cb w s hcx hloc hleft hbad hlen hdl => by
    have e : doS x l[k] s = (popS s).2 := by simp [doS, hloc, ho, operateS]
    rw [e] at hdl ⊢
    rw [ho] at hkr
    rw [← atc0 hk (by rw [ho]; rfl)]
    rcases one_cases s with ⟨h1, h2⟩ | ⟨ks, v, h1, h2⟩
    · exact .inl ⟨h2, odrop_err D cb w s.stack s.pieces _ hcx (by rw [h1]; rfl)⟩
    · rw [h2]
      have h3 := odrop_any D cb w s.stack s.pieces _ hcx (by rw [h1]; simp)
      have e2 : s.stack.take (s.stack.length - 1) = ks := by simp [h1]
      rw [e2] at h3
      exact .inr ⟨hloc, hbad, h3⟩
theorem good_20 {D : CxD} {x : LWorld} {l : List LCall} {k : Nat} (hk : k < l.length) (hcode : D.code = exprL l) (hkn : ∀ c ∈ l, knownB c.op c.a c.data.length = true) (hi : ∀ c ∈ l, i64 c.op ∧ i64 c.a ∧ i64 c.b) (hS : CxS D x) (hcfa : D.cfa = x.cfa) (hbase : D.base = x.base) (ho : l[k].op = 20) : OpGood D x l k l[k] :=
  have ha := (hi _ (List.getElem_mem hk)).2.1
  have hb2 := (hi _ (List.getElem_mem hk)).2.2
  have hkr := known_range (hkn _ (List.getElem_mem hk))
  good_of hk 96 20 ho (by decide) (by decide) (by decide) (by decide) oplut_20 (fun a b w => by kernel_rfl) fun cb w s hcx hloc hleft hbad hlen hdl => by
    have e : doS x l[k] s = if (s.stack.length : Int) ≤ 1 then s.mkBad else pushS (s.stack.getD ((s.stack.length : Int) - 1 - 1).toNat 0) s := by simp [doS, hloc, ho, operateS]
    rw [e] at hdl ⊢
    rw [ho] at hkr
    rw [← atc0 hk (by rw [ho]; rfl)]
    by_cases h1 : (s.stack.length : Int) ≤ 1
    · rw [if_pos h1]
      exact .inl ⟨rfl, oover_err D cb w s.stack s.pieces _ hcx (by omega) (by omega)⟩
    · rw [if_neg h1]
      have h3 := oover_any D cb w s.stack s.pieces _ hcx (by omega) (by omega)
      have e2 : s.stack.getD ((s.stack.length : Int) - 1 - 1).toNat 0 = s.stack[s.stack.length - 1 - 1]'(by omega) := by
        have : ((s.stack.length : Int) - 1 - 1).toNat = s.stack.length - 1 - 1 := by omega
        rw [this, List.getD_eq_getElem?_getD, List.getElem?_eq_getElem (by omega)]; rfl
      rw [e2]
      exact .inr ⟨hloc, hbad, h3⟩
theorem good_21 {D : CxD} {x : LWorld} {l : List LCall} {k : Nat} (hk : k < l.length) (hcode : D.code = exprL l) (hkn : ∀ c ∈ l, knownB c.op c.a c.data.length = true) (hi : ∀ c ∈ l, i64 c.op ∧ i64 c.a ∧ i64 c.b) (hS : CxS D x) (hcfa : D.cfa = x.cfa) (hbase : D.base = x.base) (ho : l[k].op = 21) : OpGood D x l k l[k] :=
  have ha := (hi _ (List.getElem_mem hk)).2.1
  have hb2 := (hi _ (List.getElem_mem hk)).2.2
  have hkr := known_range (hkn _ (List.getElem_mem hk))
  good_of hk 96 21 ho (by decide) (by decide) (by decide) (by decide) oplut_21 (fun a b w => by kernel_rfl) fun cb w s hcx hloc hleft hbad hlen hdl => by
    have e : doS x l[k] s = if (s.stack.length : Int) ≤ l[k].a then s.mkBad else pushS (s.stack.getD ((s.stack.length : Int) - 1 - l[k].a).toNat 0) s := by simp [doS, hloc, ho, operateS]
    rw [e] at hdl ⊢
    rw [ho] at hkr
    have hr : 0 ≤ l[k].a ∧ l[k].a < 256 := by simpa [knownR] using hkr
    have ey : (UInt8.ofNat (u64of l[k].a % 256)).toNat = l[k].a.toNat := by rw [ofn]; unfold u64of; omega
    by_cases h1 : (s.stack.length : Int) ≤ l[k].a
    · rw [if_pos h1]
      exact .inl ⟨rfl, opick_err D cb w s.stack s.pieces _ _ (UInt8.ofNat (u64of l[k].a % 256)) _ hcx (by omega) (atc hcode hk (by rw [ho]; show eopnd _ _ _ _ ++ [] = _; rw [List.append_nil]; rfl)) ey (by omega)⟩
    · rw [if_neg h1]
      have h3 := opick_any D cb w s.stack s.pieces _ _ (UInt8.ofNat (u64of l[k].a % 256)) _ hcx (by omega) (atc hcode hk (by rw [ho]; show eopnd _ _ _ _ ++ [] = _; rw [List.append_nil]; rfl)) ey (by omega)
      have e2 : s.stack.getD ((s.stack.length : Int) - 1 - l[k].a).toNat 0 = s.stack[s.stack.length - 1 - l[k].a.toNat]'(by omega) := by
        have : ((s.stack.length : Int) - 1 - l[k].a).toNat = s.stack.length - 1 - l[k].a.toNat := by omega
        rw [this, List.getD_eq_getElem?_getD, List.getElem?_eq_getElem (by omega)]; rfl
      rw [e2]
      exact .inr ⟨hloc, hbad, h3⟩
theorem good_22 {D : CxD} {x : LWorld} {l : List LCall} {k : Nat} (hk : k < l.length) (hcode : D.code = exprL l) (hkn : ∀ c ∈ l, knownB c.op c.a c.data.length = true) (hi : ∀ c ∈ l, i64 c.op ∧ i64 c.a ∧ i64 c.b) (hS : CxS D x) (hcfa : D.cfa = x.cfa) (hbase : D.base = x.base) (ho : l[k].op = 22) : OpGood D x l k l[k] :=
  have ha := (hi _ (List.getElem_mem hk)).2.1
  have hb2 := (hi _ (List.getElem_mem hk)).2.2
  have hkr := known_range (hkn _ (List.getElem_mem hk))
  good_of hk 97 22 ho (by decide) (by decide) (by decide) (by decide) oplut_22 (fun a b w => by kernel_rfl) fun cb w s hcx hloc hleft hbad hlen hdl => by
    have e : doS x l[k] s = pushS (popS (popS s).2).1 (pushS (popS s).1 (popS (popS s).2).2) := by simp [doS, hloc, ho, operateS]
    rw [e] at hdl ⊢
    rw [ho] at hkr
    rw [← atc0 hk (by rw [ho]; rfl)]
    rcases two_cases s with ⟨h1, h2⟩ | ⟨ks, a, b, h1, h2, h3⟩
    · exact .inl ⟨h2, oswap_err D cb w s.stack s.pieces _ hcx h1⟩
    · rw [h2, h3]
      rw [h1] at hcx
      have h4 := oswap_any D cb w ks a b s.pieces _ hcx
      have e2 : ks ++ [b, a] = ks ++ [b] ++ [a] := by simp
      rw [e2] at h4
      exact .inr ⟨hloc, hbad, h4⟩
theorem good_23 {D : CxD} {x : LWorld} {l : List LCall} {k : Nat} (hk : k < l.length) (hcode : D.code = exprL l) (hkn : ∀ c ∈ l, knownB c.op c.a c.data.length = true) (hi : ∀ c ∈ l, i64 c.op ∧ i64 c.a ∧ i64 c.b) (hS : CxS D x) (hcfa : D.cfa = x.cfa) (hbase : D.base = x.base) (ho : l[k].op = 23) : OpGood D x l k l[k] :=
  have ha := (hi _ (List.getElem_mem hk)).2.1
  have hb2 := (hi _ (List.getElem_mem hk)).2.2
  have hkr := known_range (hkn _ (List.getElem_mem hk))
  good_of hk 98 23 ho (by decide) (by decide) (by decide) (by decide) oplut_23 (fun a b w => by kernel_rfl) fun cb w s hcx hloc hleft hbad hlen hdl => by
    have e : doS x l[k] s = pushS (popS (popS s).2).1 (pushS (popS (popS (popS s).2).2).1 (pushS (popS s).1 (popS (popS (popS s).2).2).2)) := by simp [doS, hloc, ho, operateS]
    rw [e] at hdl ⊢
    rw [ho] at hkr
    rw [← atc0 hk (by rw [ho]; rfl)]
    rcases three_cases s with ⟨h1, h2⟩ | ⟨ks, a, b, c, h1, h2, h3, h4⟩
    · exact .inl ⟨h2, orot_err D cb w s.stack s.pieces _ hcx h1⟩
    · rw [h2, h3, h4]
      rw [h1] at hcx
      have h5 := orot_any D cb w ks a b c s.pieces _ hcx
      have e2 : ks ++ [c, a, b] = ks ++ [c] ++ [a] ++ [b] := by simp
      rw [e2] at h5
      exact .inr ⟨hloc, hbad, h5⟩
theorem good_35 {D : CxD} {x : LWorld} {l : List LCall} {k : Nat} (hk : k < l.length) (hcode : D.code = exprL l) (hkn : ∀ c ∈ l, knownB c.op c.a c.data.length = true) (hi : ∀ c ∈ l, i64 c.op ∧ i64 c.a ∧ i64 c.b) (hS : CxS D x) (hcfa : D.cfa = x.cfa) (hbase : D.base = x.base) (ho : l[k].op = 35) : OpGood D x l k l[k] :=
  have ha := (hi _ (List.getElem_mem hk)).2.1
  have hb2 := (hi _ (List.getElem_mem hk)).2.2
  have hkr := known_range (hkn _ (List.getElem_mem hk))
  good_of hk 101 35 ho (by decide) (by decide) (by decide) (by decide) oplut_35 (fun a b w => by kernel_rfl) fun cb w s hcx hloc hleft hbad hlen hdl => by
    have e : doS x l[k] s = pushS (wrap64 ((popS s).1 + l[k].a)) (popS s).2 := by simp [doS, hloc, ho, operateS]
    rw [e] at hdl ⊢
    rw [ho] at hkr
    rcases one_cases s with ⟨h1, h2⟩ | ⟨ks, v, h1, h2⟩
    · rw [h1] at hcx
      exact .inl ⟨h2, oplusu_err D cb w s.pieces _ _ (u64of l[k].a) hcx (atc hcode hk (by rw [ho]; show eopnd _ _ _ _ ++ [] = _; rw [List.append_nil]; rfl)) (u64of_lt _)⟩
    · rw [h2]
      rw [h1] at hcx
      have h3 := oplusu_any D cb w (ks ++ [v]) s.pieces _ _ (u64of l[k].a) l[k].a v hcx (by rw [h1] at hlen; omega) (atc hcode hk (by rw [ho]; show eopnd _ _ _ _ ++ [] = _; rw [List.append_nil]; rfl)) (u64of_lt _) (wrap_u64of ha) (by simp) (by simp)
      simp only [List.length_append, List.length_singleton, Nat.add_sub_cancel, List.set_append_right, Nat.le_refl, Nat.sub_self, List.set_cons_zero] at h3
      exact .inr ⟨hloc, hbad, h3⟩
theorem good_6 {D : CxD} {x : LWorld} {l : List LCall} {k : Nat} (hk : k < l.length) (hcode : D.code = exprL l) (hkn : ∀ c ∈ l, knownB c.op c.a c.data.length = true) (hi : ∀ c ∈ l, i64 c.op ∧ i64 c.a ∧ i64 c.b) (hS : CxS D x) (hcfa : D.cfa = x.cfa) (hbase : D.base = x.base) (ho : l[k].op = 6) : OpGood D x l k l[k] :=
  have ha := (hi _ (List.getElem_mem hk)).2.1
  have hb2 := (hi _ (List.getElem_mem hk)).2.2
  have hkr := known_range (hkn _ (List.getElem_mem hk))
  good_of hk 89 6 ho (by decide) (by decide) (by decide) (by decide) oplut_6 (fun a b w => by kernel_rfl) fun cb w s hcx hloc hleft hbad hlen hdl => by
    have e : doS x l[k] s = pushS (loadS x (u64of (popS s).1) 8 (popS s).2).1 (loadS x (u64of (popS s).1) 8 (popS s).2).2 := by simp [doS, hloc, ho, operateS]
    rw [e] at hdl ⊢
    rw [ho] at hkr
    rw [← atc0 hk (by rw [ho]; rfl)]
    rcases one_cases s with ⟨h1, h2⟩ | ⟨ks, v, h1, h2⟩
    · refine .inl ⟨?_, oderef_6_empty D cb w s.pieces _ (by rw [h1] at hcx; exact hcx)⟩
      unfold loadS; split <;> first | exact h2 | rfl
    · rw [h2]
      rw [h1] at hcx
      have hks : ks.length ≤ 4000 := by rw [h1] at hlen; simp at hlen; omega
      by_cases hm : x.at_ ≤ u64of v ∧ u64of v - x.at_ ≤ x.mem.length ∧ 8 ≤ x.mem.length - (u64of v - x.at_)
      · simp only [loadS, hm, and_self, if_true]
        exact .inr ⟨hloc, hbad, oderef_6_8 D cb w ks s.pieces x _ v (u64of v) _ _ hS hcx (by omega) (u64_wrap_u v) (u64of_lt v) hm.1 hm.2.1 hm.2.2 rfl rfl⟩
      · simp only [loadS, hm, if_false]
        exact .inl ⟨rfl, oderef_6_8_bad D cb w ks s.pieces x _ v (u64of v) hS hcx (by omega) (u64_wrap_u v) (u64of_lt v) hm⟩
theorem good_148 {D : CxD} {x : LWorld} {l : List LCall} {k : Nat} (hk : k < l.length) (hcode : D.code = exprL l) (hkn : ∀ c ∈ l, knownB c.op c.a c.data.length = true) (hi : ∀ c ∈ l, i64 c.op ∧ i64 c.a ∧ i64 c.b) (hS : CxS D x) (hcfa : D.cfa = x.cfa) (hbase : D.base = x.base) (ho : l[k].op = 148) : OpGood D x l k l[k] :=
  have ha := (hi _ (List.getElem_mem hk)).2.1
  have hb2 := (hi _ (List.getElem_mem hk)).2.2
  have hkr := known_range (hkn _ (List.getElem_mem hk))
  good_of hk 89 148 ho (by decide) (by decide) (by decide) (by decide) oplut_148 (fun a b w => by kernel_rfl) fun cb w s hcx hloc hleft hbad hlen hdl => by
    have e : doS x l[k] s = if l[k].a ≠ 2 ∧ l[k].a ≠ 4 ∧ l[k].a ≠ 8 then s.mkLeft else pushS (loadS x (u64of (popS s).1) l[k].a.toNat (popS s).2).1 (loadS x (u64of (popS s).1) l[k].a.toNat (popS s).2).2 := by simp [doS, hloc, ho, operateS]
    rw [e] at hdl ⊢
    rw [ho] at hkr
    by_cases hv : l[k].a ≠ 2 ∧ l[k].a ≠ 4 ∧ l[k].a ≠ 8
    · rw [if_pos hv] at hdl; cases hdl
    rw [if_neg hv]
    have ha0 : AtC D (pl l k + 1) [UInt8.ofNat (u64of l[k].a % 256)] (pl l (k + 1)) := (atc hcode hk (by rw [ho]; show eopnd _ _ _ _ ++ [] = _; rw [List.append_nil]; rfl))
    have h3 : l[k].a = 2 ∨ l[k].a = 4 ∨ l[k].a = 8 := by omega
    clear hdl e hkr
    rcases h3 with hn | hn | hn
    · have e1 : ([UInt8.ofNat (u64of l[k].a % 256)] : List UInt8) = [2] := by rw [hn]; rfl
      have ha1 : AtC D (pl l k + 1) [2] (pl l (k + 1)) := by have := ha0; rw [e1] at this; exact this
      have e3 : l[k].a.toNat = 2 := by rw [hn]; rfl
      rw [e3]
      rcases one_cases s with ⟨h1, h2⟩ | ⟨ks, v, h1, h2⟩
      · refine .inl ⟨?_, oderef_148_empty D cb w s.pieces _ _ 2 (by rw [h1] at hcx; exact hcx) ha1⟩
        unfold loadS; split <;> first | exact h2 | rfl
      · rw [h2]
        rw [h1] at hcx
        have hks : ks.length ≤ 4000 := by rw [h1] at hlen; simp at hlen; omega
        by_cases hm : x.at_ ≤ u64of v ∧ u64of v - x.at_ ≤ x.mem.length ∧ 2 ≤ x.mem.length - (u64of v - x.at_)
        · simp only [loadS, hm, and_self, if_true]
          exact .inr ⟨hloc, hbad, oderef_148_2 D cb w ks s.pieces x _ _ v (u64of v) _ _ hS hcx (by omega) (u64_wrap_u v) (u64of_lt v) ha1 hm.1 hm.2.1 hm.2.2 rfl rfl⟩
        · simp only [loadS, hm, if_false]
          exact .inl ⟨rfl, oderef_148_2_bad D cb w ks s.pieces x _ _ v (u64of v) hS hcx (by omega) (u64_wrap_u v) (u64of_lt v) ha1 hm⟩
    · have e1 : ([UInt8.ofNat (u64of l[k].a % 256)] : List UInt8) = [4] := by rw [hn]; rfl
      have ha1 : AtC D (pl l k + 1) [4] (pl l (k + 1)) := by have := ha0; rw [e1] at this; exact this
      have e3 : l[k].a.toNat = 4 := by rw [hn]; rfl
      rw [e3]
      rcases one_cases s with ⟨h1, h2⟩ | ⟨ks, v, h1, h2⟩
      · refine .inl ⟨?_, oderef_148_empty D cb w s.pieces _ _ 4 (by rw [h1] at hcx; exact hcx) ha1⟩
        unfold loadS; split <;> first | exact h2 | rfl
      · rw [h2]
        rw [h1] at hcx
        have hks : ks.length ≤ 4000 := by rw [h1] at hlen; simp at hlen; omega
        by_cases hm : x.at_ ≤ u64of v ∧ u64of v - x.at_ ≤ x.mem.length ∧ 4 ≤ x.mem.length - (u64of v - x.at_)
        · simp only [loadS, hm, and_self, if_true]
          exact .inr ⟨hloc, hbad, oderef_148_4 D cb w ks s.pieces x _ _ v (u64of v) _ _ hS hcx (by omega) (u64_wrap_u v) (u64of_lt v) ha1 hm.1 hm.2.1 hm.2.2 rfl rfl⟩
        · simp only [loadS, hm, if_false]
          exact .inl ⟨rfl, oderef_148_4_bad D cb w ks s.pieces x _ _ v (u64of v) hS hcx (by omega) (u64_wrap_u v) (u64of_lt v) ha1 hm⟩
    · have e1 : ([UInt8.ofNat (u64of l[k].a % 256)] : List UInt8) = [8] := by rw [hn]; rfl
      have ha1 : AtC D (pl l k + 1) [8] (pl l (k + 1)) := by have := ha0; rw [e1] at this; exact this
      have e3 : l[k].a.toNat = 8 := by rw [hn]; rfl
      rw [e3]
      rcases one_cases s with ⟨h1, h2⟩ | ⟨ks, v, h1, h2⟩
      · refine .inl ⟨?_, oderef_148_empty D cb w s.pieces _ _ 8 (by rw [h1] at hcx; exact hcx) ha1⟩
        unfold loadS; split <;> first | exact h2 | rfl
      · rw [h2]
        rw [h1] at hcx
        have hks : ks.length ≤ 4000 := by rw [h1] at hlen; simp at hlen; omega
        by_cases hm : x.at_ ≤ u64of v ∧ u64of v - x.at_ ≤ x.mem.length ∧ 8 ≤ x.mem.length - (u64of v - x.at_)
        · simp only [loadS, hm, and_self, if_true]
          exact .inr ⟨hloc, hbad, oderef_148_8 D cb w ks s.pieces x _ _ v (u64of v) _ _ hS hcx (by omega) (u64_wrap_u v) (u64of_lt v) ha1 hm.1 hm.2.1 hm.2.2 rfl rfl⟩
        · simp only [loadS, hm, if_false]
          exact .inl ⟨rfl, oderef_148_8_bad D cb w ks s.pieces x _ _ v (u64of v) hS hcx (by omega) (u64_wrap_u v) (u64of_lt v) ha1 hm⟩
theorem oplut_lit (op : Nat) (h1 : 48 ≤ op) (h2 : op < 80) (w : World) : OplutP 104 op w := by
  have h : op = 48 ∨ op = 49 ∨ op = 50 ∨ op = 51 ∨ op = 52 ∨ op = 53 ∨ op = 54 ∨ op = 55 ∨ op = 56 ∨ op = 57 ∨ op = 58 ∨ op = 59 ∨ op = 60 ∨ op = 61 ∨ op = 62 ∨ op = 63 ∨ op = 64 ∨ op = 65 ∨ op = 66 ∨ op = 67 ∨ op = 68 ∨ op = 69 ∨ op = 70 ∨ op = 71 ∨ op = 72 ∨ op = 73 ∨ op = 74 ∨ op = 75 ∨ op = 76 ∨ op = 77 ∨ op = 78 ∨ op = 79 := by omega
  rcases h with rfl | rfl | rfl | rfl | rfl | rfl | rfl | rfl | rfl | rfl | rfl | rfl | rfl | rfl | rfl | rfl | rfl | rfl | rfl | rfl | rfl | rfl | rfl | rfl | rfl | rfl | rfl | rfl | rfl | rfl | rfl | rfl
  · exact oplut_48 w
  · exact oplut_49 w
  · exact oplut_50 w
  · exact oplut_51 w
  · exact oplut_52 w
  · exact oplut_53 w
  · exact oplut_54 w
  · exact oplut_55 w
  · exact oplut_56 w
  · exact oplut_57 w
  · exact oplut_58 w
  · exact oplut_59 w
  · exact oplut_60 w
  · exact oplut_61 w
  · exact oplut_62 w
  · exact oplut_63 w
  · exact oplut_64 w
  · exact oplut_65 w
  · exact oplut_66 w
  · exact oplut_67 w
  · exact oplut_68 w
  · exact oplut_69 w
  · exact oplut_70 w
  · exact oplut_71 w
  · exact oplut_72 w
  · exact oplut_73 w
  · exact oplut_74 w
  · exact oplut_75 w
  · exact oplut_76 w
  · exact oplut_77 w
  · exact oplut_78 w
  · exact oplut_79 w
theorem oplut_reg (op : Nat) (h1 : 80 ≤ op) (h2 : op < 112) (w : World) : OplutP 105 op w := by
  have h : op = 80 ∨ op = 81 ∨ op = 82 ∨ op = 83 ∨ op = 84 ∨ op = 85 ∨ op = 86 ∨ op = 87 ∨ op = 88 ∨ op = 89 ∨ op = 90 ∨ op = 91 ∨ op = 92 ∨ op = 93 ∨ op = 94 ∨ op = 95 ∨ op = 96 ∨ op = 97 ∨ op = 98 ∨ op = 99 ∨ op = 100 ∨ op = 101 ∨ op = 102 ∨ op = 103 ∨ op = 104 ∨ op = 105 ∨ op = 106 ∨ op = 107 ∨ op = 108 ∨ op = 109 ∨ op = 110 ∨ op = 111 := by omega
  rcases h with rfl | rfl | rfl | rfl | rfl | rfl | rfl | rfl | rfl | rfl | rfl | rfl | rfl | rfl | rfl | rfl | rfl | rfl | rfl | rfl | rfl | rfl | rfl | rfl | rfl | rfl | rfl | rfl | rfl | rfl | rfl | rfl
  · exact oplut_80 w
  · exact oplut_81 w
  · exact oplut_82 w
  · exact oplut_83 w
  · exact oplut_84 w
  · exact oplut_85 w
  · exact oplut_86 w
  · exact oplut_87 w
  · exact oplut_88 w
  · exact oplut_89 w
  · exact oplut_90 w
  · exact oplut_91 w
  · exact oplut_92 w
  · exact oplut_93 w
  · exact oplut_94 w
  · exact oplut_95 w
  · exact oplut_96 w
  · exact oplut_97 w
  · exact oplut_98 w
  · exact oplut_99 w
  · exact oplut_100 w
  · exact oplut_101 w
  · exact oplut_102 w
  · exact oplut_103 w
  · exact oplut_104 w
  · exact oplut_105 w
  · exact oplut_106 w
  · exact oplut_107 w
  · exact oplut_108 w
  · exact oplut_109 w
  · exact oplut_110 w
  · exact oplut_111 w
theorem oplut_breg (op : Nat) (h1 : 112 ≤ op) (h2 : op < 144) (w : World) : OplutP 106 op w := by
  have h : op = 112 ∨ op = 113 ∨ op = 114 ∨ op = 115 ∨ op = 116 ∨ op = 117 ∨ op = 118 ∨ op = 119 ∨ op = 120 ∨ op = 121 ∨ op = 122 ∨ op = 123 ∨ op = 124 ∨ op = 125 ∨ op = 126 ∨ op = 127 ∨ op = 128 ∨ op = 129 ∨ op = 130 ∨ op = 131 ∨ op = 132 ∨ op = 133 ∨ op = 134 ∨ op = 135 ∨ op = 136 ∨ op = 137 ∨ op = 138 ∨ op = 139 ∨ op = 140 ∨ op = 141 ∨ op = 142 ∨ op = 143 := by omega
  rcases h with rfl | rfl | rfl | rfl | rfl | rfl | rfl | rfl | rfl | rfl | rfl | rfl | rfl | rfl | rfl | rfl | rfl | rfl | rfl | rfl | rfl | rfl | rfl | rfl | rfl | rfl | rfl | rfl | rfl | rfl | rfl | rfl
  · exact oplut_112 w
  · exact oplut_113 w
  · exact oplut_114 w
  · exact oplut_115 w
  · exact oplut_116 w
  · exact oplut_117 w
  · exact oplut_118 w
  · exact oplut_119 w
  · exact oplut_120 w
  · exact oplut_121 w
  · exact oplut_122 w
  · exact oplut_123 w
  · exact oplut_124 w
  · exact oplut_125 w
  · exact oplut_126 w
  · exact oplut_127 w
  · exact oplut_128 w
  · exact oplut_129 w
  · exact oplut_130 w
  · exact oplut_131 w
  · exact oplut_132 w
  · exact oplut_133 w
  · exact oplut_134 w
  · exact oplut_135 w
  · exact oplut_136 w
  · exact oplut_137 w
  · exact oplut_138 w
  · exact oplut_139 w
  · exact oplut_140 w
  · exact oplut_141 w
  · exact oplut_142 w
  · exact oplut_143 w
theorem good_lit {D : CxD} {x : LWorld} {l : List LCall} {k : Nat} (hk : k < l.length) (hcode : D.code = exprL l) (hkn : ∀ c ∈ l, knownB c.op c.a c.data.length = true) (hi : ∀ c ∈ l, i64 c.op ∧ i64 c.a ∧ i64 c.b) (hS : CxS D x) (hcfa : D.cfa = x.cfa) (hbase : D.base = x.base) (h1 : 48 ≤ l[k].op) (h2 : l[k].op < 80) : OpGood D x l k l[k] := by
  have ha := (hi _ (List.getElem_mem hk)).2.1
  obtain ⟨j, hj⟩ : ∃ j : Nat, l[k].op = ((48 + j : Nat) : Int) := ⟨(l[k].op - 48).toNat, by omega⟩
  have hj2 : 48 + j < 80 := by omega
  refine good_of hk 104 (48 + j) hj (by omega) (by omega) (by omega) (by omega) (oplut_lit (48 + j) (by omega) hj2) (fun a b w => by kernel_rfl) fun cb w s hcx hloc hleft hbad hlen hdl => ?_
  have ej : l[k].op - 48 = (j : Int) := by omega
  have e : doS x l[k] s = pushS ((48 + j : Nat) - 48 : Int) s := by
    unfold doS
    rw [if_neg (by simp [hloc])]
    rw [if_pos ⟨h1, h2⟩, hj]
  rw [e] at hdl ⊢
  have h3 := oliteral_any D cb w s.stack s.pieces _ (48 + j) hcx (by omega) (by omega) hj2
  rw [atc0 hk (by simp [eshape, h1, h2])] at h3
  exact .inr ⟨hloc, hbad, h3⟩
theorem good_breg {D : CxD} {x : LWorld} {l : List LCall} {k : Nat} (hk : k < l.length) (hcode : D.code = exprL l) (hkn : ∀ c ∈ l, knownB c.op c.a c.data.length = true) (hi : ∀ c ∈ l, i64 c.op ∧ i64 c.a ∧ i64 c.b) (hS : CxS D x) (hcfa : D.cfa = x.cfa) (hbase : D.base = x.base) (h1 : 112 ≤ l[k].op) (h2 : l[k].op < 144) : OpGood D x l k l[k] := by
  have ha := (hi _ (List.getElem_mem hk)).2.1
  obtain ⟨j, hj⟩ : ∃ j : Nat, l[k].op = ((112 + j : Nat) : Int) := ⟨(l[k].op - 112).toNat, by omega⟩
  have hj2 : 112 + j < 144 := by omega
  refine good_of hk 106 (112 + j) hj (by omega) (by omega) (by omega) (by omega) (oplut_breg (112 + j) (by omega) hj2) (fun a b w => by kernel_rfl) fun cb w s hcx hloc hleft hbad hlen hdl => ?_
  have ej : l[k].op - 112 = (j : Int) := by omega
  have e : doS x l[k] s = pushS (wrap64 ((registerS x (j : Int) s).1 + l[k].a)) (registerS x (j : Int) s).2 := by
    unfold doS
    rw [if_neg (by simp [hloc])]
    rw [if_neg (by omega), if_neg (by omega), if_pos ⟨h1, h2⟩, ej]
  rw [e] at hdl ⊢
  have es : (eshape l[k].op).1 = [115] := by
    unfold eshape; rw [if_neg (by omega), if_pos ⟨h1, h2⟩]
  have ha1 : AtC D (pl l k + 1) (sleb l[k].a) (pl l (k + 1)) := atc hcode hk (by rw [es]; show eopnd _ _ _ _ ++ [] = _; rw [List.append_nil]; rfl)
  by_cases hx : j < x.regs.length
  · have hr : registerS x (j : Int) s = (wrap64 ((x.regs.getD j 0 : Nat) : Int), s) := by unfold registerS; rw [if_pos ⟨by omega, by omega⟩]; simp
    rw [hr]
    exact .inr ⟨hloc, hbad, obreg_any D cb w s.stack s.pieces _ _ (112 + j) j l[k].a x _ hcx (by omega) hS rfl hj2 ha1 ha hx rfl⟩
  · have hr : registerS x (j : Int) s = (0, s.mkBad) := by unfold registerS; rw [if_neg (by omega)]
    rw [hr]
    exact .inl ⟨rfl, obreg_err D cb w s.stack s.pieces _ _ (112 + j) j l[k].a x hcx hS rfl hj2 ha1 ha (by omega)⟩
theorem good_146 {D : CxD} {x : LWorld} {l : List LCall} {k : Nat} (hk : k < l.length) (hcode : D.code = exprL l) (hkn : ∀ c ∈ l, knownB c.op c.a c.data.length = true) (hi : ∀ c ∈ l, i64 c.op ∧ i64 c.a ∧ i64 c.b) (hS : CxS D x) (hcfa : D.cfa = x.cfa) (hbase : D.base = x.base) (ho : l[k].op = 146) : OpGood D x l k l[k] :=
  have ha := (hi _ (List.getElem_mem hk)).2.1
  have hb2 := (hi _ (List.getElem_mem hk)).2.2
  have hkr := known_range (hkn _ (List.getElem_mem hk))
  good_of hk 106 146 ho (by decide) (by decide) (by decide) (by decide) oplut_146 (fun a b w => by kernel_rfl) fun cb w s hcx hloc hleft hbad hlen hdl => by
    have e : doS x l[k] s = pushS (wrap64 ((registerS x l[k].a s).1 + l[k].b)) (registerS x l[k].a s).2 := by simp [doS, hloc, ho]
    rw [e] at hdl ⊢
    rw [ho] at hkr
    have hr0 : 0 ≤ l[k].a ∧ l[k].a < 1048576 := by simpa [knownR] using hkr
    obtain ⟨j, hj⟩ : ∃ j : Nat, l[k].a = (j : Int) := ⟨l[k].a.toNat, by omega⟩
    have hu : u64of l[k].a = j := by rw [u64of_pos hr0.1 (by omega)]; omega
    have hat : AtC D (pl l k + 1) (uleb j ++ sleb l[k].b) (pl l (k + 1)) := atc hcode hk (by rw [ho]; show eopnd _ _ _ _ ++ (eopnd _ _ _ _ ++ []) = _; rw [List.append_nil, ← hu]; rfl)
    obtain ⟨ha0, ha1⟩ := hat.split
    rw [hj]
    by_cases hx : j < x.regs.length
    · have hr : registerS x (j : Int) s = (wrap64 ((x.regs.getD j 0 : Nat) : Int), s) := by unfold registerS; rw [if_pos ⟨by omega, by omega⟩]; simp
      rw [hr]
      exact .inr ⟨hloc, hbad, obregx_any D cb w s.stack s.pieces _ _ _ j l[k].b x _ hcx (by omega) hS ha0 (by omega) ha1 hb2 hx rfl⟩
    · have hr : registerS x (j : Int) s = (0, s.mkBad) := by unfold registerS; rw [if_neg (by omega)]
      rw [hr]
      exact .inl ⟨rfl, obregx_err D cb w s.stack s.pieces _ _ _ j l[k].b x hcx hS ha0 (by omega) ha1 hb2 (by omega)⟩
theorem good_147 {D : CxD} {x : LWorld} {l : List LCall} {k : Nat} (hk : k < l.length) (hcode : D.code = exprL l) (hkn : ∀ c ∈ l, knownB c.op c.a c.data.length = true) (hi : ∀ c ∈ l, i64 c.op ∧ i64 c.a ∧ i64 c.b) (hS : CxS D x) (hcfa : D.cfa = x.cfa) (hbase : D.base = x.base) (ho : l[k].op = 147) : OpGood D x l k l[k] :=
  have ha := (hi _ (List.getElem_mem hk)).2.1
  have hb2 := (hi _ (List.getElem_mem hk)).2.2
  have hkr := known_range (hkn _ (List.getElem_mem hk))
  good_ofp hk 108 147 ho (by decide) (by decide) (by decide) (by decide) oplut_147 (fun a b w => by kernel_rfl) fun cb w s hcx hloc hleft hbad hplen hdl => by
    have e : doS x l[k] s = pieceS l[k].a s := by simp [doS, hloc, ho]
    rw [e] at hdl ⊢
    rw [ho] at hkr
    have hr0 : 0 ≤ l[k].a ∧ l[k].a < 1048576 := by simpa [knownR] using hkr
    have hu : u64of l[k].a = l[k].a.toNat := u64of_pos hr0.1 (by omega)
    have hat : AtC D (pl l k + 1) (uleb l[k].a.toNat) (pl l (k + 1)) := atc hcode hk (by rw [ho, ← hu]; show eopnd _ _ _ _ ++ [] = _; rw [List.append_nil]; rfl)
    unfold pieceS at hdl ⊢
    by_cases h0 : l[k].a = 0
    · rw [if_pos h0] at hdl; cases hdl
    rw [if_neg h0] at hdl ⊢
    simp only [hloc] at hdl ⊢
    by_cases h1 : s.stack.length = 1
    · rw [if_pos h1] at hdl ⊢
      obtain ⟨v, hv⟩ := List.length_eq_one_iff.1 h1
      have hp : popS s = (v, { s with stack := [] }) := popS_snoc (l := []) (by rw [hv]; rfl)
      rw [hp]
      rw [hv] at hcx
      have h3 := opiece_any D cb w [] s.pieces _ _ l[k].a.toNat v (u64of v) hcx (by omega) hat (by omega) (u64_wrap_u v) rfl
      have e2 : ((l[k].a.toNat : Nat) : Int) = l[k].a := by omega
      rw [e2] at h3
      exact ⟨hloc, hbad, h3⟩
    · rw [if_neg h1] at hdl; cases hdl
theorem good_reg {D : CxD} {x : LWorld} {l : List LCall} {k : Nat} (hk : k < l.length) (hcode : D.code = exprL l) (hkn : ∀ c ∈ l, knownB c.op c.a c.data.length = true) (hi : ∀ c ∈ l, i64 c.op ∧ i64 c.a ∧ i64 c.b) (hS : CxS D x) (hcfa : D.cfa = x.cfa) (hbase : D.base = x.base) (h1 : 80 ≤ l[k].op) (h2 : l[k].op < 112) : OpGood D x l k l[k] := by
  have ha := (hi _ (List.getElem_mem hk)).2.1
  obtain ⟨j, hj⟩ : ∃ j : Nat, l[k].op = ((80 + j : Nat) : Int) := ⟨(l[k].op - 80).toNat, by omega⟩
  have hj2 : 80 + j < 112 := by omega
  refine good_place hk hcode hkn 105 (80 + j) hj (by omega) (by omega) (by omega) (by omega) (oplut_reg (80 + j) (by omega) hj2) (fun a b w => by kernel_rfl) fun cb w s hcx hloc hleft hbad hlen hdl => ?_
  have ej : l[k].op - 80 = (j : Int) := by omega
  have e : doS x l[k] s = placeS ⟨1, (j : Int), 0, [], false⟩ s := by
    unfold doS
    rw [if_neg (by simp [hloc])]
    rw [if_neg (by omega), if_pos ⟨h1, h2⟩, ej]
  rw [e] at hdl ⊢
  unfold placeS at hdl ⊢
  by_cases hs : s.stack = []
  · rw [if_pos hs]
    refine .inr ⟨hbad, ⟨1, (j : Int), 0, [], false⟩, by rw [← hs], fun R hcl => ?_⟩
    rw [hs] at hcx
    have hu : u64of (j : Int) = j := by unfold u64of; omega
    rw [atc0 hk (by unfold eshape; rw [if_pos (.inr ⟨h1, h2⟩)])] at hcx
    refine oreg_any D cb w [] s.pieces _ (80 + j) j R hcx rfl hj2 fun w' opc h => ?_
    have h5 := hcl w' opc (.slice none 0 0) h (.inr ⟨by simp, rfl⟩)
    rw [hu] at h5; exact h5
  · rw [if_neg hs] at hdl; cases hdl
theorem good_144 {D : CxD} {x : LWorld} {l : List LCall} {k : Nat} (hk : k < l.length) (hcode : D.code = exprL l) (hkn : ∀ c ∈ l, knownB c.op c.a c.data.length = true) (hi : ∀ c ∈ l, i64 c.op ∧ i64 c.a ∧ i64 c.b) (hS : CxS D x) (hcfa : D.cfa = x.cfa) (hbase : D.base = x.base) (ho : l[k].op = 144) : OpGood D x l k l[k] :=
  have ha := (hi _ (List.getElem_mem hk)).2.1
  have hkr := known_range (hkn _ (List.getElem_mem hk))
  good_place hk hcode hkn 105 144 ho (by decide) (by decide) (by decide) (by decide) oplut_144 (fun a b w => by kernel_rfl) fun cb w s hcx hloc hleft hbad hlen hdl => by
    have e : doS x l[k] s = placeS ⟨1, l[k].a, 0, [], false⟩ s := by simp [doS, hloc, ho]
    rw [e] at hdl ⊢
    rw [ho] at hkr
    have hr0 : 0 ≤ l[k].a ∧ l[k].a < 1048576 := by simpa [knownR] using hkr
    have hu : u64of l[k].a = l[k].a.toNat := u64of_pos hr0.1 (by omega)
    have hat : AtC D (pl l k + 1) (uleb l[k].a.toNat) (pl l (k + 1)) := atc hcode hk (by rw [ho, ← hu]; show eopnd _ _ _ _ ++ [] = _; rw [List.append_nil]; rfl)
    unfold placeS at hdl ⊢
    by_cases hs : s.stack = []
    · rw [if_pos hs]
      refine .inr ⟨hbad, ⟨1, l[k].a, 0, [], false⟩, by rw [← hs], fun R hcl => ?_⟩
      rw [hs] at hcx
      refine oregx_any D cb w [] s.pieces _ _ l[k].a.toNat R hcx hat (by omega) fun w' opc h => ?_
      have h5 := hcl w' opc (.slice none 0 0) h (.inr ⟨by simp, rfl⟩)
      simp only [hu] at h5; exact h5
    · rw [if_neg hs] at hdl; cases hdl
theorem good_159 {D : CxD} {x : LWorld} {l : List LCall} {k : Nat} (hk : k < l.length) (hcode : D.code = exprL l) (hkn : ∀ c ∈ l, knownB c.op c.a c.data.length = true) (hi : ∀ c ∈ l, i64 c.op ∧ i64 c.a ∧ i64 c.b) (hS : CxS D x) (hcfa : D.cfa = x.cfa) (hbase : D.base = x.base) (ho : l[k].op = 159) : OpGood D x l k l[k] :=
  have ha := (hi _ (List.getElem_mem hk)).2.1
  have hkr := known_range (hkn _ (List.getElem_mem hk))
  good_place hk hcode hkn 111 159 ho (by decide) (by decide) (by decide) (by decide) oplut_159 (fun a b w => by kernel_rfl) fun cb w s hcx hloc hleft hbad hlen hdl => by
    have e : doS x l[k] s = placeS ⟨2, (popS s).1, 0, [], true⟩ (popS s).2 := by simp [doS, hloc, ho]
    rw [e] at hdl ⊢
    rw [ho] at hkr
    rcases one_cases s with ⟨h1, h2⟩ | ⟨ks, v, h1, h2⟩
    · refine .inl ⟨?_, ostackvalue_err D cb w s.pieces _ (by rw [h1] at hcx; exact hcx)⟩
      unfold placeS; split <;> exact h2
    · rw [h2] at hdl ⊢
      unfold placeS at hdl ⊢
      by_cases hs : ks = []
      · subst hs
        simp only [if_true]
        refine .inr ⟨hbad, ⟨2, v, 0, [], true⟩, rfl, fun R hcl => ?_⟩
        rw [h1, atc0 hk (by rw [ho]; rfl)] at hcx
        refine ostackvalue_any D cb w [] s.pieces _ v (u64of v) R hcx (by simp) (u64_wrap_u v) fun w' opc h => ?_
        exact hcl w' opc (.slice none 0 0) h (.inr ⟨by simp, rfl⟩)
      · rw [if_neg hs] at hdl; cases hdl
theorem good_158 {D : CxD} {x : LWorld} {l : List LCall} {k : Nat} (hk : k < l.length) (hcode : D.code = exprL l) (hkn : ∀ c ∈ l, knownB c.op c.a c.data.length = true) (hi : ∀ c ∈ l, i64 c.op ∧ i64 c.a ∧ i64 c.b) (hS : CxS D x) (hcfa : D.cfa = x.cfa) (hbase : D.base = x.base) (ho : l[k].op = 158) : OpGood D x l k l[k] :=
  have ha := (hi _ (List.getElem_mem hk)).2.1
  have hkr := known_range (hkn _ (List.getElem_mem hk))
  good_place hk hcode hkn 110 158 ho (by decide) (by decide) (by decide) (by decide) oplut_158 (fun a b w => by kernel_rfl) fun cb w s hcx hloc hleft hbad hlen hdl => by
    have e : doS x l[k] s = placeS ⟨2, 0, (l[k].data.length : Nat), l[k].data, false⟩ s := by simp [doS, hloc, ho]
    rw [e] at hdl ⊢
    rw [ho] at hkr
    have hd := known_len (hkn _ (List.getElem_mem hk))
    have hat : AtC D (pl l k + 1) (uleb l[k].data.length ++ l[k].data) (pl l (k + 1)) := atc hcode hk (by rw [ho]; show eopnd _ _ _ _ ++ [] = _; rw [List.append_nil]; rfl)
    obtain ⟨ha0, ha1⟩ := hat.split
    unfold placeS at hdl ⊢
    by_cases hs : s.stack = []
    · rw [if_pos hs]
      refine .inr ⟨hbad, ⟨2, 0, (l[k].data.length : Nat), l[k].data, false⟩, by rw [← hs], fun R hcl => ?_⟩
      rw [hs] at hcx
      have hz : ((u64of 0 : Nat) : Int) = 0 := rfl
      have hcl2 : ∀ w' opc g, CxR D cb w' [] s.pieces (pl l (k + 1)) → w'.ownsRow D.W.heap.size 5 1 (.slice (some ⟨g, 0, none⟩) l[k].data.length l[k].data.length) l[k].data.length (vbs l[k].data) → Calls Try.prog 127 #[.pointer (some ⟨cb, 0, none⟩), .int .u8 opc, .agg #[vi (l[k].data.length : Int), .int .u8 2, .int .u64 0, .slice (some ⟨g, 0, none⟩) l[k].data.length l[k].data.length]] w' (RetP R) := fun w' opc g h hg => by
        have h5 := hcl w' opc (.slice (some ⟨g, 0, none⟩) l[k].data.length l[k].data.length) h (.inl ⟨rfl, rfl, ⟨_, _, rfl⟩, hg⟩)
        exact h5
      by_cases hn : 0 < l[k].data.length
      · exact oimplicit_n D cb w [] s.pieces _ _ _ l[k].data.length l[k].data R hcx ha0 ha1 rfl hd hn hcl2
      · exact oimplicit_z D cb w [] s.pieces _ _ _ l[k].data.length l[k].data R hcx ha0 ha1 rfl hd (by omega) hcl2
    · rw [if_neg hs] at hdl; cases hdl
theorem good_47 {D : CxD} {x : LWorld} {l : List LCall} {k : Nat} (hk : k < l.length) (hcode : D.code = exprL l) (hkn : ∀ c ∈ l, knownB c.op c.a c.data.length = true) (hi : ∀ c ∈ l, i64 c.op ∧ i64 c.a ∧ i64 c.b) (hS : CxS D x) (hcfa : D.cfa = x.cfa) (hbase : D.base = x.base) (ho : l[k].op = 47) (hjp : (l[k].op = 40 ∨ l[k].op = 47) → 0 ≤ l[k].a ∧ l[k].a ≤ l.length ∧ -32768 ≤ jumpD l k l[k] ∧ jumpD l k l[k] < 32768) : OpGood D x l k l[k] := by
  refine .inr ⟨103, 47, ho, by decide, by decide, oplut_47, (fun a b w => by kernel_rfl), fun cb w s fuel o hcx hloc hR => ?_⟩
  obtain ⟨j1, j2, j3, j4⟩ := hjp (by omega)
  have hd : dOf l k l[k] = jumpD l k l[k] := by unfold dOf isJump; rw [if_pos (by rw [ho]; decide)]
  have hat : AtC D (pl l k + 1) (leL (u64of (jumpD l k l[k])) 2) (pl l (k + 1)) := atc hcode hk (by rw [ho, hd]; show eopnd _ _ _ _ ++ [] = _; rw [List.append_nil]; rfl)
  have hn : IntKind.i16.wrap ((leval (leL (u64of (jumpD l k l[k])) 2) : Nat) : Int) = jumpD l k l[k] := by rw [leval_u64, iwrap16]; unfold u64of; omega
  have hal : l[k].a.toNat ≤ l.length := by omega
  have ht : (pl l (k + 1) : Int) + jumpD l k l[k] = (pl l l[k].a.toNat : Int) := by unfold jumpD; omega
  have htl : pl l l[k].a.toNat ≤ D.code.length := by rw [hcode, exprL_len]; exact pl_mono l hal
  have e : stepS x l[k] (k + 1) s = (l[k].a, s) := by simp [stepS, hloc, jumpS, ho]
  have hR2 := hR.jump hk e hR.left hR.bad
  exact (oskip_any D cb w s.stack s.pieces x _ _ _ _ _ hcx hS hat (leL_length _ _) hn ht htl).mono fun e w' h => .inr ⟨h.1, fuel, Nat.le_refl _, _, s, hal, hR2, .inl ⟨hloc, h.2⟩⟩
theorem good_40 {D : CxD} {x : LWorld} {l : List LCall} {k : Nat} (hk : k < l.length) (hcode : D.code = exprL l) (hkn : ∀ c ∈ l, knownB c.op c.a c.data.length = true) (hi : ∀ c ∈ l, i64 c.op ∧ i64 c.a ∧ i64 c.b) (hS : CxS D x) (hcfa : D.cfa = x.cfa) (hbase : D.base = x.base) (ho : l[k].op = 40) (hjp : (l[k].op = 40 ∨ l[k].op = 47) → 0 ≤ l[k].a ∧ l[k].a ≤ l.length ∧ -32768 ≤ jumpD l k l[k] ∧ jumpD l k l[k] < 32768) : OpGood D x l k l[k] := by
  refine .inr ⟨102, 40, ho, by decide, by decide, oplut_40, (fun a b w => by kernel_rfl), fun cb w s fuel o hcx hloc hR => ?_⟩
  obtain ⟨j1, j2, j3, j4⟩ := hjp (by omega)
  have hd : dOf l k l[k] = jumpD l k l[k] := by unfold dOf isJump; rw [if_pos (by rw [ho]; decide)]
  have hat : AtC D (pl l k + 1) (leL (u64of (jumpD l k l[k])) 2) (pl l (k + 1)) := atc hcode hk (by rw [ho, hd]; show eopnd _ _ _ _ ++ [] = _; rw [List.append_nil]; rfl)
  have hn : IntKind.i16.wrap ((leval (leL (u64of (jumpD l k l[k])) 2) : Nat) : Int) = jumpD l k l[k] := by rw [leval_u64, iwrap16]; unfold u64of; omega
  have hal : l[k].a.toNat ≤ l.length := by omega
  have ht : (pl l (k + 1) : Int) + jumpD l k l[k] = (pl l l[k].a.toNat : Int) := by unfold jumpD; omega
  have htl : pl l l[k].a.toNat ≤ D.code.length := by rw [hcode, exprL_len]; exact pl_mono l hal
  rcases one_cases s with ⟨h1, h2⟩ | ⟨ks, v, h1, h2⟩
  · rw [h1] at hcx
    have hp : popS s = (0, s.mkBad) := popS_nil h1
    have e : (stepS x l[k] (k + 1) s).2.left = true := by
      have hj : jumpS l[k] s = (0, false, s.mkBad.mkLeft) := by simp [jumpS, ho, hp]
      have e1 : stepS x l[k] (k + 1) s = (((k + 1 : Nat) : Int), doS x l[k] s.mkBad.mkLeft) := by simp [stepS, hloc, hj]
      rw [e1]; exact doS_40 ho rfl
    have hr := hR.run
    rw [runS_succ hk, if_pos e] at hr
    exact absurd hr.symm hR.nl
  · by_cases hv : v = 0
    · have e : (stepS x l[k] (k + 1) s).2.left = true := by
        have hj : jumpS l[k] s = (0, false, ({ s with stack := ks } : LSt).mkLeft) := by simp [jumpS, ho, h2, hv]
        have e1 : stepS x l[k] (k + 1) s = (((k + 1 : Nat) : Int), doS x l[k] ({ s with stack := ks } : LSt).mkLeft) := by simp [stepS, hloc, hj]
        rw [e1]; exact doS_40 ho rfl
      have hr := hR.run
      rw [runS_succ hk, if_pos e] at hr
      exact absurd hr.symm hR.nl
    · have hj : jumpS l[k] s = (l[k].a, true, { s with stack := ks }) := by simp [jumpS, ho, h2, hv]
      have e : stepS x l[k] (k + 1) s = (l[k].a, { s with stack := ks }) := by simp [stepS, hloc, hj]
      have hR2 := hR.jump hk e hR.left hR.bad
      rw [h1] at hcx
      have hks : ks.length ≤ 4000 := by have := hR.l1; rw [h1] at this; simp at this; omega
      exact (obra_any D cb w ks s.pieces x _ _ _ _ _ v hcx hv (by omega) hS hat (leL_length _ _) hn ht htl).mono fun e w' h => .inr ⟨h.1, fuel, Nat.le_refl _, _, { s with stack := ks }, hal, hR2, .inl ⟨hloc, h.2⟩⟩
end Go.Proofs.Ytahohmdfllgedaa

namespace Go.Proofs.Ytahohmdfllgedaa
open Go.RowKit

/-- Every operation of an expression is good. -/
theorem all_good {D : CxD} {x : LWorld} {l : List LCall} (hcode : D.code = exprL l) (he : exprOk l = true) (hi : ∀ c ∈ l, i64 c.op ∧ i64 c.a ∧ i64 c.b) (hS : CxS D x) (hcfa : D.cfa = x.cfa) (hbase : D.base = x.base) : ∀ k (h : k < l.length), OpGood D x l k l[k] := by
  intro k hk
  have hkn := exprOk_known he
  have hjp := exprOk_jump he k hk
  have hj2 : (l[k].op = 40 ∨ l[k].op = 47) → 0 ≤ l[k].a ∧ l[k].a ≤ l.length ∧ -32768 ≤ jumpD l k l[k] ∧ jumpD l k l[k] < 32768 := fun h => hjp h
  have ha := (hi _ (List.getElem_mem hk)).2.1
  have hs := eshape_ops (known_shape (hkn _ (List.getElem_mem hk)))
  by_cases h1 : 48 ≤ l[k].op ∧ l[k].op < 80
  · exact good_lit hk hcode hkn hi hS hcfa hbase h1.1 h1.2
  by_cases h2 : 80 ≤ l[k].op ∧ l[k].op < 112
  · exact good_reg hk hcode hkn hi hS hcfa hbase h2.1 h2.2
  by_cases h3 : 112 ≤ l[k].op ∧ l[k].op < 144
  · exact good_breg hk hcode hkn hi hS hcfa hbase h3.1 h3.2
  have h8 : l[k].op = 3 ∨ l[k].op = 6 ∨ l[k].op = 8 ∨ l[k].op = 9 ∨ l[k].op = 10 ∨ l[k].op = 11 ∨ l[k].op = 12 ∨ l[k].op = 13 ∨ l[k].op = 14 ∨ l[k].op = 15 ∨ l[k].op = 16 ∨ l[k].op = 17 ∨ l[k].op = 18 ∨ l[k].op = 19 ∨ l[k].op = 20 ∨ l[k].op = 21 ∨ l[k].op = 22 ∨ l[k].op = 23 ∨
      l[k].op = 25 ∨ l[k].op = 26 ∨ l[k].op = 27 ∨ l[k].op = 28 ∨ l[k].op = 29 ∨ l[k].op = 30 ∨ l[k].op = 31 ∨ l[k].op = 32 ∨ l[k].op = 33 ∨ l[k].op = 34 ∨ l[k].op = 35 ∨ l[k].op = 36 ∨ l[k].op = 37 ∨ l[k].op = 38 ∨ l[k].op = 39 ∨ l[k].op = 40 ∨ l[k].op = 41 ∨ l[k].op = 42 ∨ l[k].op = 43 ∨ l[k].op = 44 ∨ l[k].op = 45 ∨ l[k].op = 46 ∨ l[k].op = 47 ∨
      l[k].op = 144 ∨ l[k].op = 145 ∨ l[k].op = 146 ∨ l[k].op = 147 ∨ l[k].op = 148 ∨ l[k].op = 150 ∨ l[k].op = 156 ∨ l[k].op = 158 ∨ l[k].op = 159 := by omega
  clear hs h1 h2 h3 hjp
  rcases h8 with h | h | h | h | h | h | h | h | h | h | h | h | h | h | h | h | h | h | h | h | h | h | h | h | h | h | h | h | h | h | h | h | h | h | h | h | h | h | h | h | h | h | h | h | h | h | h | h | h | h
  · exact good_3 hk hcode hkn hi hS hcfa hbase h
  · exact good_6 hk hcode hkn hi hS hcfa hbase h
  · exact good_8 hk hcode hkn hi hS hcfa hbase h
  · exact good_9 hk hcode hkn hi hS hcfa hbase h
  · exact good_10 hk hcode hkn hi hS hcfa hbase h
  · exact good_11 hk hcode hkn hi hS hcfa hbase h
  · exact good_12 hk hcode hkn hi hS hcfa hbase h
  · exact good_13 hk hcode hkn hi hS hcfa hbase h
  · exact good_14 hk hcode hkn hi hS hcfa hbase h
  · exact good_15 hk hcode h ha
  · exact good_16 hk hcode hkn hi hS hcfa hbase h
  · exact good_17 hk hcode h ha
  · exact good_18 hk hcode hkn hi hS hcfa hbase h
  · exact good_19 hk hcode hkn hi hS hcfa hbase h
  · exact good_20 hk hcode hkn hi hS hcfa hbase h
  · exact good_21 hk hcode hkn hi hS hcfa hbase h
  · exact good_22 hk hcode hkn hi hS hcfa hbase h
  · exact good_23 hk hcode hkn hi hS hcfa hbase h
  · exact good_25 hk hcode h
  · exact good_26 hk hcode h
  · exact good_27 hk hcode h
  · exact good_28 hk hcode h
  · exact good_29 hk hcode h
  · exact good_30 hk hcode h
  · exact good_31 hk hcode h
  · exact good_32 hk hcode h
  · exact good_33 hk hcode h
  · exact good_34 hk hcode h
  · exact good_35 hk hcode hkn hi hS hcfa hbase h
  · exact good_36 hk hcode h
  · exact good_37 hk hcode h
  · exact good_38 hk hcode h
  · exact good_39 hk hcode h
  · exact good_40 hk hcode hkn hi hS hcfa hbase h hj2
  · exact good_41 hk hcode h
  · exact good_42 hk hcode h
  · exact good_43 hk hcode h
  · exact good_44 hk hcode h
  · exact good_45 hk hcode h
  · exact good_46 hk hcode h
  · exact good_47 hk hcode hkn hi hS hcfa hbase h hj2
  · exact good_144 hk hcode hkn hi hS hcfa hbase h
  · exact good_145 hk hcode hkn hi hS hcfa hbase h
  · exact good_146 hk hcode hkn hi hS hcfa hbase h
  · exact good_147 hk hcode hkn hi hS hcfa hbase h
  · exact good_148 hk hcode hkn hi hS hcfa hbase h
  · exact .inl h
  · exact good_156 hk hcode hkn hi hS hcfa hbase h
  · exact good_158 hk hcode hkn hi hS hcfa hbase h
  · exact good_159 hk hcode hkn hi hS hcfa hbase h
theorem FnEvaluate_true (v rv mv : Value) (l : List LCall) (x : LWorld) (w : World) (hl : RSl 4 (RCall w) w v l) (hx : RWorld w rv mv x) :
    Calls Try.prog 7 #[v, worldV rv mv x] w fun e w' => e = .returned (.bool true) ∧ Fr [] w w' :=
  FnEvaluate_walk v rv mv l x w hl hx (fun he _ hS hc hcfa hbase => all_good hc he (rcall_i64 hl) hS hcfa hbase)
end Go.Proofs.Ytahohmdfllgedaa

namespace Go.Proofs.Ytahohmdfllgedaa
open Go.ChangeShapes Go.WideShapes Go.Deep Go.RowKit

/-- A slice argument whose elements are structs of one-cell fields: nil, or each element's field reads by itself. -/
theorem slice_fields {H : Type} {enc : TypeId × Value → H} {P : Program} {W : World} {base : Nat} {spare : Nat → Bool} {held : Bool} {t e : TypeId} {fs : Array Field} {fuel : Nat} {v : Value} {x : DataW H × List MemPlace}
    (ht : P.underlying t = some (.slice e)) (he : P.underlying e = some (.struct fs)) (hone : oneCellFields P fs = true) (hC : P.cellsOf e = fs.size) (h : DataW.trod enc P W base spare held fuel t [v] = some x) :
    v = .slice none 0 0 ∨ ∃ a len cap, v = .slice (some a) len cap ∧ len ≤ cap ∧ cap ≤ maxLen ∧
      ∀ i, i < len → ∀ (j : Nat) (f : Field), fs[j]? = some f → ∃ u y n, W.cell? (a.add (i * fs.size + j)) = some u ∧ DataW.trod enc P W base spare held n f.type [u] = some y := by
  rcases open_slice ht h with ⟨hv, -⟩ | ⟨a, len, cap, m, n, D, Pl, hv, -, hl, hm, hmm, -, hel⟩
  · exact .inl (by simpa using hv)
  · refine .inr ⟨a, len, cap, by simpa using hv, hl, hm, fun i hi j f hj => ?_⟩
    have him : i < m := by rw [hmm]; split <;> omega
    obtain ⟨cs, hcells, htr⟩ := hel i him
    rw [hC] at hcells
    obtain ⟨-, hlen, hat⟩ := World.cells?_some hcells
    obtain ⟨xs, k, -, -, -, hxl, hfd⟩ := DataW.trod_struct he htr
    obtain ⟨hoff, hsz⟩ := hone_of hone j f hj
    have hjl : j < fs.size := (Array.getElem?_eq_some_iff.1 hj).1
    have hjc : j < cs.length := by omega
    have hone1 : (cs.drop j).take 1 = [cs[j]] := by rw [List.drop_eq_getElem_cons hjc]; rfl
    have hread := hfd j f hj
    rw [hoff, hsz, hone1, List.getElem?_eq_getElem (by omega)] at hread
    refine ⟨cs[j], _, k, ?_, hread⟩
    rw [← Go.Deep.add_add, hat j hjl, List.getElem?_eq_getElem hjc]

section
variable {H : Type} {enc : TypeId × Value → H} {W : World} {base : Nat} {spare : Nat → Bool} {held : Bool}
theorem arg_bytes1 {fuel : Nat} {v : Value} {x : DataW H × List MemPlace} (hf : DataW.trod enc Try.prog W base spare held fuel 23 [v] = some x) : ∃ l : List UInt8, Sl W v (vbs l) := by
  rcases open_ints Try.underlying23 Try.underlying5 (by kernel_rfl) hf with ⟨hcs, _⟩ | ⟨x, n, c, zs, hcs, _⟩
  · simp at hcs; subst hcs; exact ⟨[], .inl ⟨rfl, rfl⟩⟩
  · simp at hcs; subst hcs
    obtain ⟨l, hl, hs⟩ := arg_bytes hf
    exact ⟨l, hs⟩
theorem arg_int {fuel : Nat} {k : IntKind} {t : TypeId} {v : Value} {x : DataW H × List MemPlace} (ht : Try.prog.underlying t = some (.int k)) (hf : DataW.trod enc Try.prog W base spare held fuel t [v] = some x) : ∃ n, v = .int k n ∧ (Lit.int k n).wf = true := by
  obtain ⟨n, hcs, -, hw⟩ := DataW.trod_int ht hf
  simp at hcs
  exact ⟨n, hcs, hw⟩

/-- From what each element holds to the list. -/
theorem rsl_of {α : Type} {size : Nat} {R : List Value → α → Prop} {a : Addr} {len cap : Nat} (h1 : len ≤ cap) (h2 : cap ≤ maxLen)
    (h : ∀ i, i < len → ∃ (vs : List Value) (y : α), vs.length = size ∧ R vs y ∧ ∀ j u, vs[j]? = some u → W.cell? (a.add (i * size + j)) = some u) :
    ∃ l : List α, l.length = len ∧ RSl size R W (.slice (some a) len cap) l := by
  have h' : ∀ i : Fin len, ∃ y : α, ∃ vs : List Value, vs.length = size ∧ R vs y ∧ ∀ j u, vs[j]? = some u → W.cell? (a.add (i.val * size + j)) = some u := fun i => by
    obtain ⟨vs, y, h⟩ := h i.val i.isLt; exact ⟨y, vs, h⟩
  obtain ⟨f, hf⟩ := Classical.axiomOfChoice h'
  refine ⟨List.ofFn f, by simp, .inr ⟨a, cap, by simp, by simpa using h1, h2, fun i hi => ?_⟩⟩
  have hi' : i < len := by simpa using hi
  obtain ⟨vs, h1, h2, h3⟩ := hf ⟨i, hi'⟩
  exact ⟨vs, h1, by simpa using h2, h3⟩

theorem arg_calls {fuel : Nat} {v : Value} {x : DataW H × List MemPlace} (hf : DataW.trod enc Try.prog W base spare held fuel 41 [v] = some x) : ∃ l : List LCall, RSl 4 (RCall W) W v l := by
  rcases slice_fields Try.underlying41 Try.underlying86 (by kernel_rfl) (by kernel_rfl) hf with rfl | ⟨a, len, cap, rfl, hl, hm, hi⟩
  · exact ⟨[], .inl ⟨rfl, rfl⟩⟩
  · obtain ⟨l, -, hr⟩ := rsl_of (size := 4) (R := RCall W) hl hm (fun i hil => by
      have hfd := hi i hil
      obtain ⟨v0, y0, k0, c0, t0⟩ := hfd 0 _ rfl
      obtain ⟨v1, y1, k1, c1, t1⟩ := hfd 1 _ rfl
      obtain ⟨v2, y2, k2, c2, t2⟩ := hfd 2 _ rfl
      obtain ⟨v3, y3, k3, c3, t3⟩ := hfd 3 _ rfl
      obtain ⟨n0, rfl, w0⟩ := arg_int Try.underlying3 t0
      obtain ⟨n1, rfl, w1⟩ := arg_int Try.underlying2 t1
      obtain ⟨n2, rfl, w2⟩ := arg_int Try.underlying2 t2
      obtain ⟨lb, hs⟩ := arg_bytes1 t3
      refine ⟨[_, _, _, v3], ⟨n0, n1, n2, lb⟩, rfl, ⟨v3, rfl, hs, wf_bounds_i64 w0, wf_bounds_i64 w1, wf_bounds_i64 w2⟩, fun j u hj => ?_⟩
      match j, hj with
      | 0, hj => simp at hj; subst hj; exact c0
      | 1, hj => simp at hj; subst hj; exact c1
      | 2, hj => simp at hj; subst hj; exact c2
      | 3, hj => simp at hj; subst hj; exact c3)
    exact ⟨l, hr⟩
theorem arg_frames {fuel : Nat} {v : Value} {x : DataW H × List MemPlace} (hf : DataW.trod enc Try.prog W base spare held fuel 42 [v] = some x) : ∃ l : List LFrame, RSl 3 (RFrame W) W v l := by
  rcases slice_fields Try.underlying42 Try.underlying46 (by kernel_rfl) (by kernel_rfl) hf with rfl | ⟨a, len, cap, rfl, hl, hm, hi⟩
  · exact ⟨[], .inl ⟨rfl, rfl⟩⟩
  · obtain ⟨l, -, hr⟩ := rsl_of (size := 3) (R := RFrame W) hl hm (fun i hil => by
      have hfd := hi i hil
      obtain ⟨v0, y0, k0, c0, t0⟩ := hfd 0 _ rfl
      obtain ⟨v1, y1, k1, c1, t1⟩ := hfd 1 _ rfl
      obtain ⟨v2, y2, k2, c2, t2⟩ := hfd 2 _ rfl
      obtain ⟨n0, rfl, w0⟩ := arg_int Try.underlying22 t0
      obtain ⟨n1, rfl, w1⟩ := arg_int Try.underlying22 t1
      obtain ⟨lb, hs⟩ := arg_calls t2
      obtain ⟨m0, rfl⟩ := Int.eq_ofNat_of_zero_le (wf_bounds_u64 w0).1
      obtain ⟨m1, rfl⟩ := Int.eq_ofNat_of_zero_le (wf_bounds_u64 w1).1
      refine ⟨[_, _, v2], ⟨m0, m1, lb⟩, rfl, ⟨v2, rfl, hs, by have := (wf_bounds_u64 w0).2; show m0 < _; omega, by have := (wf_bounds_u64 w1).2; show m1 < _; omega⟩, fun j u hj => ?_⟩
      match j, hj with
      | 0, hj => simp at hj; subst hj; exact c0
      | 1, hj => simp at hj; subst hj; exact c1
      | 2, hj => simp at hj; subst hj; exact c2)
    exact ⟨l, hr⟩
theorem arg_commons {fuel : Nat} {v : Value} {x : DataW H × List MemPlace} (hf : DataW.trod enc Try.prog W base spare held fuel 35 [v] = some x) : ∃ l : List LCommon, RList W v l := by
  rcases slice_fields Try.underlying35 Try.underlying44 (by kernel_rfl) (by kernel_rfl) hf with rfl | ⟨a, len, cap, rfl, hl, hm, hi⟩
  · exact ⟨[], .inl ⟨rfl, rfl⟩⟩
  · obtain ⟨l, -, hr⟩ := rsl_of (size := 6) (R := RCommon W) hl hm (fun i hil => by
      have hfd := hi i hil
      obtain ⟨v0, y0, k0, c0, t0⟩ := hfd 0 _ rfl
      obtain ⟨v1, y1, k1, c1, t1⟩ := hfd 1 _ rfl
      obtain ⟨v2, y2, k2, c2, t2⟩ := hfd 2 _ rfl
      obtain ⟨v3, y3, k3, c3, t3⟩ := hfd 3 _ rfl
      obtain ⟨v4, y4, k4, c4, t4⟩ := hfd 4 _ rfl
      obtain ⟨v5, y5, k5, c5, t5⟩ := hfd 5 _ rfl
      obtain ⟨n0, rfl, w0⟩ := arg_int Try.underlying3 t0
      obtain ⟨n1, rfl, w1⟩ := arg_int Try.underlying22 t1
      obtain ⟨n2, rfl, w2⟩ := arg_int Try.underlying2 t2
      obtain ⟨n3, rfl, w3⟩ := arg_int Try.underlying3 t3
      obtain ⟨lc, hc⟩ := arg_calls t4
      obtain ⟨lf, hfr⟩ := arg_frames t5
      obtain ⟨m1, rfl⟩ := Int.eq_ofNat_of_zero_le (wf_bounds_u64 w1).1
      refine ⟨[_, _, _, _, v4, v5], ⟨n0, m1, n2, n3, lc, lf⟩, rfl, ⟨v4, v5, rfl, hc, hfr, wf_bounds_i64 w0, by have := (wf_bounds_u64 w1).2; show m1 < _; omega, wf_bounds_i64 w2, wf_bounds_i64 w3⟩, fun j u hj => ?_⟩
      match j, hj with
      | 0, hj => simp at hj; subst hj; exact c0
      | 1, hj => simp at hj; subst hj; exact c1
      | 2, hj => simp at hj; subst hj; exact c2
      | 3, hj => simp at hj; subst hj; exact c3
      | 4, hj => simp at hj; subst hj; exact c4
      | 5, hj => simp at hj; subst hj; exact c5)
    exact ⟨l, hr⟩
end
end Go.Proofs.Ytahohmdfllgedaa

namespace Go.Proofs.Ytahohmdfllgedaa
open Go.ChangeShapes Go.WideShapes Go.Deep Go.RowKit

section
variable {H : Type} {enc : TypeId × Value → H} {W : World} {base : Nat} {spare : Nat → Bool} {held : Bool}
/-- A struct of one-cell fields, by value: each field reads by itself. -/
theorem struct_fields {P : Program} {t : TypeId} {fs : Array Field} {fuel : Nat} {cs : List Value} {x : DataW H × List MemPlace} (ht : P.underlying t = some (.struct fs)) (hone : oneCellFields P fs = true) (hl : cs.length = fs.size)
    (h : DataW.trod enc P W base spare held fuel t cs = some x) : ∀ (j : Nat) (f : Field), fs[j]? = some f → ∃ u y n, cs[j]? = some u ∧ DataW.trod enc P W base spare held n f.type [u] = some y := by
  intro j f hj
  obtain ⟨xs, k, -, -, -, hxl, hfd⟩ := DataW.trod_struct ht h
  obtain ⟨hoff, hsz⟩ := hone_of hone j f hj
  have hjl : j < fs.size := (Array.getElem?_eq_some_iff.1 hj).1
  have hjc : j < cs.length := by omega
  have hone1 : (cs.drop j).take 1 = [cs[j]] := by rw [List.drop_eq_getElem_cons hjc]; rfl
  have hread := hfd j f hj
  rw [hoff, hsz, hone1, List.getElem?_eq_getElem (by omega)] at hread
  exact ⟨cs[j], _, k, List.getElem?_eq_getElem hjc, hread⟩
theorem arg_ops {fuel : Nat} {v : Value} {x : DataW H × List MemPlace} (hf : DataW.trod enc Try.prog W base spare held fuel 49 [v] = some x) : ∃ l : List LCall, RSl 4 (RCall W) W v l := by
  rcases slice_fields Try.underlying49 Try.underlying48 (by kernel_rfl) (by kernel_rfl) hf with rfl | ⟨a, len, cap, rfl, hl, hm, hi⟩
  · exact ⟨[], .inl ⟨rfl, rfl⟩⟩
  · obtain ⟨l, -, hr⟩ := rsl_of (size := 4) (R := RCall W) hl hm (fun i hil => by
      have hfd := hi i hil
      obtain ⟨v0, y0, k0, c0, t0⟩ := hfd 0 _ rfl
      obtain ⟨v1, y1, k1, c1, t1⟩ := hfd 1 _ rfl
      obtain ⟨v2, y2, k2, c2, t2⟩ := hfd 2 _ rfl
      obtain ⟨v3, y3, k3, c3, t3⟩ := hfd 3 _ rfl
      obtain ⟨n0, rfl, w0⟩ := arg_int Try.underlying3 t0
      obtain ⟨n1, rfl, w1⟩ := arg_int Try.underlying2 t1
      obtain ⟨n2, rfl, w2⟩ := arg_int Try.underlying2 t2
      obtain ⟨lb, hs⟩ := arg_bytes1 t3
      refine ⟨[_, _, _, v3], ⟨n0, n1, n2, lb⟩, rfl, ⟨v3, rfl, hs, wf_bounds_i64 w0, wf_bounds_i64 w1, wf_bounds_i64 w2⟩, fun j u hj => ?_⟩
      match j, hj with
      | 0, hj => simp at hj; subst hj; exact c0
      | 1, hj => simp at hj; subst hj; exact c1
      | 2, hj => simp at hj; subst hj; exact c2
      | 3, hj => simp at hj; subst hj; exact c3)
    exact ⟨l, hr⟩
/-- An argument of type []uint64. -/
theorem arg_u64s {fuel : Nat} {v : Value} {x : DataW H × List MemPlace} (hf : DataW.trod enc Try.prog W base spare held fuel 37 [v] = some x) : ∃ l : List Nat, Sl W v (vus l) ∧ ∀ n ∈ l, n < 18446744073709551616 := by
  rcases open_ints Try.underlying37 Try.underlying22 (by kernel_rfl) hf with ⟨hcs, _⟩ | ⟨x, len, cap, zs, hcs, _, hl, hm, hz, _, hcell, hwz⟩
  · simp at hcs; subst hcs; exact ⟨[], .inl ⟨rfl, rfl⟩, by simp⟩
  · simp at hcs; subst hcs
    have hlen : len ≤ zs.length := by rw [hz]; split <;> omega
    have hb : ∀ z ∈ zs, 0 ≤ z ∧ z < 18446744073709551616 := fun z hzm => wf_bounds_u64 (hwz z hzm)
    refine ⟨(zs.take len).map Int.toNat, .inr ⟨x, cap, by simp [Nat.min_eq_left hlen], by simp [Nat.min_eq_left hlen, hl], hm, fun i u hi => ?_⟩, fun n hn => ?_⟩
    · have hil : i < len := by
        have := (List.getElem?_eq_some_iff.1 hi).1
        simp at this; omega
      rw [hcell i (by omega)]
      have hw := hb (zs[i]'(by omega)) (List.getElem_mem _)
      simp [hil, show i < zs.length by omega] at hi
      rw [← hi]
      simp only [List.getD, List.getElem?_eq_getElem (show i < zs.length by omega), Option.getD_some]
      congr 2
      omega
    · obtain ⟨z, hzm, rfl⟩ := List.mem_map.1 hn
      have := hb z (List.mem_of_mem_take hzm)
      omega
set_option maxRecDepth 100000 in
theorem arg_world {r : Reach} {b0 : Nat} {v : Value} {d : DataW H} {p : List MemPlace} (hv : Value.okWide Try.prog W r b0 52 v) (h : DataW.Trod enc Try.prog W base spare held 52 v d p) : ∃ rv mv x, v = worldV rv mv x ∧ RWorld W rv mv x := by
  obtain ⟨cs, rfl, hsz⟩ := okWide_struct Try.underlying52 hv
  have hC : Try.prog.cellsOf 52 = 5 := by kernel_rfl
  obtain ⟨l⟩ := cs
  match l, hsz.trans hC with
  | [v0, v1, v2, v3, v4], _ =>
    obtain ⟨fuel, hf⟩ := h
    have hfd := struct_fields Try.underlying52 (by kernel_rfl) (by rfl) hf
    obtain ⟨u0, y0, k0, c0, t0⟩ := hfd 0 _ rfl
    obtain ⟨u1, y1, k1, c1, t1⟩ := hfd 1 _ rfl
    obtain ⟨u2, y2, k2, c2, t2⟩ := hfd 2 _ rfl
    obtain ⟨u3, y3, k3, c3, t3⟩ := hfd 3 _ rfl
    obtain ⟨u4, y4, k4, c4, t4⟩ := hfd 4 _ rfl
    simp [Value.cells] at c0 c1 c2 c3 c4
    subst c0 c1 c2 c3 c4
    obtain ⟨lr, hr, hrb⟩ := arg_u64s t0
    obtain ⟨n1, rfl, w1⟩ := arg_int Try.underlying2 t1
    obtain ⟨n2, rfl, w2⟩ := arg_int Try.underlying2 t2
    obtain ⟨n3, rfl, w3⟩ := arg_int Try.underlying22 t3
    obtain ⟨lb, hs⟩ := arg_bytes1 t4
    obtain ⟨m3, rfl⟩ := Int.eq_ofNat_of_zero_le (wf_bounds_u64 w3).1
    exact ⟨v0, v4, ⟨lr, n1, n2, m3, lb⟩, rfl, ⟨hr, hrb, hs, wf_bounds_i64 w1, wf_bounds_i64 w2, by have := (wf_bounds_u64 w3).2; show m3 < _; omega⟩⟩
end
end Go.Proofs.Ytahohmdfllgedaa
