/- The machine: deref, stackvalue where the stack is empty. Printed by gen_eop6.py.
The machine's remaining operations beside the reference's. Printed by gen_eoh.py.
laws.FnEvaluate: whatever the input, it returns true.
An operation that does nothing, set into an expression: what an evaluation answers stays. Plain.
laws.FnNop: the guards. Printed by gen_eno.py.
laws.FnNop: behind the loop. Printed by gen_eno.py.
laws.FnNop: behind the loop, T0. Printed by gen_eno.py.
laws.FnNop: behind the loop, T1. Printed by gen_eno.py.
laws.FnNop: behind the loop, T2. Printed by gen_eno.py.
laws.FnNop: behind the loop, T3. Printed by gen_eno.py.
laws.FnNop: behind the loop, T4. Printed by gen_eno.py. -/
import Derived.Test.YtahohmdfllgedaaCn0
import Derived.Test.YtahohmdfllgedaaCn1
import Derived.Test.YtahohmdfllgedaaCn2
import Derived.Test.YtahohmdfllgedaaCn3
import Derived.Test.YtahohmdfllgedaaCa18
import Derived.Test.YtahohmdfllgedaaCa3
set_option linter.unusedVariables false
set_option linter.unusedSimpArgs false
namespace Go.Proofs.Ytahohmdfllgedaa
open Go.RowKit

set_option maxRecDepth 100000 in
set_option maxHeartbeats 4000000 in
theorem ostackvalue_err (D : CxD) (cb : Nat) (w : World) (ps : List LPiece) (p : Nat) (h : CxR D cb w [] ps p) :
    Calls Try.prog 111 #[.int .u8 159, .pointer (some ⟨cb, 0, none⟩)] w (ErrP D) := by
  obtain ⟨k, hk⟩ : ∃ k : List Int, k = [] := ⟨[], rfl⟩
  have hkl : k.length = 0 := by rw [hk]; rfl
  rw [← hk] at h
  obtain ⟨bb, bv, bl, off, rd, kv, qv, qs, hv⟩ := h
  obtain ⟨ka, kc, rfl⟩ := own_slice hv.own
  rw [hkl] at hv
  have c2 : w.cell? ⟨cb, 2, none⟩ = some (.slice ka 0 kc) := hv.cell 2
  have c0 : w.cell? ⟨cb, 0, none⟩ = some (.pointer (some ⟨bb, 0, none⟩)) := hv.cell 0
  have c4 : w.cell? ⟨cb, 4, none⟩ = some (vi 8) := hv.cell 4
  have c18 : w.cell? ⟨cb, 18, none⟩ = some D.rf := hv.cell 18
  have qF : ∀ w, (binOp .eql 165 D.rf .nilFunc).run Try.prog w = .ok (.bool false) w := fun _ => by kernel_rfl
  have Hv := Lib.hid hv
  clear hv hk
  go_enter Try.func111, Try.ntmps111
  go_wp2_with fail
  go_ret
  exact ⟨.inl ⟨_, _, rfl⟩, Hv.out.fr⟩

set_option maxRecDepth 100000 in
set_option maxHeartbeats 4000000 in
theorem oderef_6_empty (D : CxD) (cb : Nat) (w : World) (ps : List LPiece) (p : Nat) (h : CxR D cb w [] ps p) :
    Calls Try.prog 89 #[.int .u8 6, .pointer (some ⟨cb, 0, none⟩)] w (ErrP D) := by
  obtain ⟨k, hk⟩ : ∃ k : List Int, k = [] := ⟨[], rfl⟩
  have hkl : k.length = 0 := by rw [hk]; rfl
  rw [← hk] at h
  obtain ⟨bb, bv, bl, off, rd, kv, qv, qs, hv⟩ := h
  obtain ⟨ka, kc, rfl⟩ := own_slice hv.own
  rw [hkl] at hv
  have c2 : w.cell? ⟨cb, 2, none⟩ = some (.slice ka 0 kc) := hv.cell 2
  have c0 : w.cell? ⟨cb, 0, none⟩ = some (.pointer (some ⟨bb, 0, none⟩)) := hv.cell 0
  have c4 : w.cell? ⟨cb, 4, none⟩ = some (vi 8) := hv.cell 4
  have c18 : w.cell? ⟨cb, 18, none⟩ = some D.rf := hv.cell 18
  have qF : ∀ w, (binOp .eql 165 D.rf .nilFunc).run Try.prog w = .ok (.bool false) w := fun _ => by kernel_rfl
  have Hv := Lib.hid hv
  clear hv hk
  go_enter Try.func89, Try.ntmps89
  go_wp2_with fail
  go_ret
  exact ⟨.inl ⟨_, _, rfl⟩, Hv.out.fr⟩

set_option maxRecDepth 100000 in
set_option maxHeartbeats 4000000 in
theorem oderef_148_empty (D : CxD) (cb : Nat) (w : World) (ps : List LPiece) (p p' : Nat) (y : UInt8) (h : CxR D cb w [] ps p) (ha : AtC D p [y] p') :
    Calls Try.prog 89 #[.int .u8 148, .pointer (some ⟨cb, 0, none⟩)] w (ErrP D) := by
  obtain ⟨k, hk⟩ : ∃ k : List Int, k = [] := ⟨[], rfl⟩
  have hkl : k.length = 0 := by rw [hk]; rfl
  rw [← hk] at h
  obtain ⟨bb, bv, bl, off, rd, kv, qv, qs, hv⟩ := h
  obtain ⟨ka, kc, rfl⟩ := own_slice hv.own
  rw [hkl] at hv
  have c2 : w.cell? ⟨cb, 2, none⟩ = some (.slice ka 0 kc) := hv.cell 2
  have c0 : w.cell? ⟨cb, 0, none⟩ = some (.pointer (some ⟨bb, 0, none⟩)) := hv.cell 0
  have c4 : w.cell? ⟨cb, 4, none⟩ = some (vi 8) := hv.cell 4
  have c18 : w.cell? ⟨cb, 18, none⟩ = some D.rf := hv.cell 18
  have qF : ∀ w, (binOp .eql 165 D.rf .nilFunc).run Try.prog w = .ok (.bool false) w := fun _ => by kernel_rfl
  have Hv := Lib.hid hv
  have Ha := Lib.hid ha
  clear hv hk ha
  go_enter Try.func89, Try.ntmps89
  go_wp2_with (go_at_call 76; go_must (refine (ReadByte_y bb bv bl off rd _ y (D.code.drop p') Hv.out.buf (Hv.out.hp Ha.out)).mono ?_); rintro e w1 ⟨rfl, hb1, hf1⟩; have Hv1 := Lib.hid (Hv.out.past Ha.out (n := 1) rfl hb1 hf1); have d2 : w1.cell? ⟨cb, 2, none⟩ = some (.slice ka 0 kc) := Hv1.out.cell 2; clear hb1 hf1)
  go_ret
  exact ⟨.inl ⟨_, _, rfl⟩, Hv1.out.fr⟩
end Go.Proofs.Ytahohmdfllgedaa

namespace Go.Proofs.Ytahohmdfllgedaa
open Go.RowKit

theorem ofn (n : Nat) : (UInt8.ofNat (n % 256)).toNat = n % 256 := by simp
theorem one_cases (s : LSt) : (s.stack = [] ∧ (popS s).2.bad = true) ∨ ∃ ks v, s.stack = ks ++ [v] ∧ popS s = (v, { s with stack := ks }) := by
  rcases List.eq_nil_or_concat s.stack with hs | ⟨ks, v, hs⟩
  · exact .inl ⟨hs, by rw [popS_nil hs]; rfl⟩
  · have hs' : s.stack = ks ++ [v] := by simpa using hs
    exact .inr ⟨ks, v, hs', popS_snoc hs'⟩
theorem popS_bad {s : LSt} (h : s.bad = true) : (popS s).2.bad = true := by unfold popS; split <;> first | exact h | rfl
theorem three_cases (s : LSt) : (s.stack.length < 3 ∧ (popS (popS (popS s).2).2).2.bad = true) ∨ ∃ ks a b c, s.stack = ks ++ [a, b, c] ∧ popS s = (c, { s with stack := ks ++ [a, b] }) ∧ popS { s with stack := ks ++ [a, b] } = (b, { s with stack := ks ++ [a] }) ∧ popS { s with stack := ks ++ [a] } = (a, { s with stack := ks }) := by
  rcases one_cases s with ⟨h1, h2⟩ | ⟨k1, c, h1, h2⟩
  · exact .inl ⟨by rw [h1]; decide, popS_bad (popS_bad h2)⟩
  · rw [h2]
    rcases two_cases { s with stack := k1 } with ⟨h3, h4⟩ | ⟨ks, a, b, h3, h4, h5⟩
    · exact .inl ⟨by rw [h1]; simp at h3 ⊢; omega, h4⟩
    · simp only at h3
      subst h3
      exact .inr ⟨ks, a, b, c, by rw [h1]; simp, rfl, h4, h5⟩
theorem popS_left (s : LSt) : (popS s).2.left = s.left := by unfold popS; split <;> rfl
theorem doS_40 {x : LWorld} {c : LCall} {s : LSt} (h : c.op = 40) (hl : s.left = true) : (doS x c s).left = true := by
  unfold doS
  refine iteInduction (motive := fun y : LSt => y.left = true) (fun _ => rfl) (fun _ => ?_)
  · repeat rw [if_neg (by rw [h]; decide)]
    unfold operateS
    repeat rw [if_neg (by rw [h]; decide)]
    unfold twoS
    rw [h]
    repeat rw [if_neg (by decide)]
    rw [popS_left, popS_left, hl]
theorem AtC.split {D : CxD} {p p' : Nat} {b1 b2 : List UInt8} (h : AtC D p (b1 ++ b2) p') : AtC D p b1 (p + b1.length) ∧ AtC D (p + b1.length) b2 p' := by
  have e : D.code.drop (p + b1.length) = b2 ++ D.code.drop p' := by rw [← List.drop_drop, h.bytes]; simp
  have h1 := h.add
  have h2 := h.le
  simp only [List.length_append] at h1
  exact ⟨⟨by rw [e, h.bytes, List.append_assoc], rfl, by omega⟩, ⟨e, by omega, h2⟩⟩
theorem good_ofp {D : CxD} {x : LWorld} {l : List LCall} {k : Nat} (hk : k < l.length) (f op : Nat) (ho : l[k].op = (op : Int)) (h256 : op < 256) (h150 : op ≠ 150) (h1 : op ≠ 40) (h2 : op ≠ 47) (hlut : ∀ w, OplutP f op w)
    (hcf : ∀ a b w, (callFunc f #[a, b]).run Try.prog w = .ok (.enter f #[a, b]) w)
    (hc : ∀ cb w s, CxR D cb w s.stack s.pieces (pl l k + 1) → s.loc = none → s.left = false → s.bad = false → s.pieces.length ≤ 4000 → (doS x l[k] s).left = false →
      (doS x l[k] s).loc = none ∧ (doS x l[k] s).bad = false ∧ Calls Try.prog f #[.int .u8 (op : Int), .pointer (some ⟨cb, 0, none⟩)] w (OkP D cb (doS x l[k] s).stack (doS x l[k] s).pieces (pl l (k + 1)))) : OpGood D x l k l[k] := by
  refine .inr ⟨f, op, ho, h256, h150, hlut, hcf, fun cb w s fuel o hcx hloc hR => ?_⟩
  obtain ⟨hl, hb⟩ := hR.step hk hloc (by rw [ho]; omega) (by rw [ho]; omega)
  obtain ⟨h3, h5, h4⟩ := hc cb w s hcx hloc hR.left hR.bad (by have := hR.l2; omega) hl
  rcases hb with ⟨hb, -⟩ | ⟨-, hb2⟩
  · rw [h5] at hb; cases hb
  · exact h4.mono fun e w' h => .ok hk hb2 h3 h
theorem u64_wrap_u (v : Int) : IntKind.u64.wrap v = ((u64of v : Nat) : Int) := by rw [IntKind.wrap_u64]; unfold u64of; omega
theorem good_8 {D : CxD} {x : LWorld} {l : List LCall} {k : Nat} (hk : k < l.length) (hcode : D.code = exprL l) (hkn : ∀ c ∈ l, knownB c.op c.a c.data.length = true) (hi : ∀ c ∈ l, i64 c.op ∧ i64 c.a ∧ i64 c.b) (hS : CxS D x) (hcfa : D.cfa = x.cfa) (hbase : D.base = x.base) (ho : l[k].op = 8) : OpGood D x l k l[k] :=
  have ha := (hi _ (List.getElem_mem hk)).2.1
  have hb2 := (hi _ (List.getElem_mem hk)).2.2
  have hkr := known_range (hkn _ (List.getElem_mem hk))
  good_of hk 90 8 ho (by decide) (by decide) (by decide) (by decide) oplut_8 (fun a b w => by kernel_rfl) fun cb w s hcx hloc hleft hbad hlen hdl => by
    have e : doS x l[k] s = pushS l[k].a s := by simp [doS, hloc, ho]
    rw [e] at hdl ⊢
    rw [ho] at hkr
    have hr : 0 ≤ l[k].a ∧ l[k].a < 256 := by simpa [knownR] using hkr
    have h1 := oconst1u_any D cb w s.stack s.pieces _ _ (UInt8.ofNat (u64of l[k].a % 256)) hcx (by omega) (atc hcode hk (by rw [ho]; show eopnd _ _ _ _ ++ [] = _; rw [List.append_nil]; rfl))
    have ev : (((UInt8.ofNat (u64of l[k].a % 256)).toNat : Nat) : Int) = l[k].a := by rw [ofn]; unfold u64of; omega
    rw [ev] at h1
    exact .inr ⟨hloc, hbad, h1⟩
theorem good_9 {D : CxD} {x : LWorld} {l : List LCall} {k : Nat} (hk : k < l.length) (hcode : D.code = exprL l) (hkn : ∀ c ∈ l, knownB c.op c.a c.data.length = true) (hi : ∀ c ∈ l, i64 c.op ∧ i64 c.a ∧ i64 c.b) (hS : CxS D x) (hcfa : D.cfa = x.cfa) (hbase : D.base = x.base) (ho : l[k].op = 9) : OpGood D x l k l[k] :=
  have ha := (hi _ (List.getElem_mem hk)).2.1
  have hb2 := (hi _ (List.getElem_mem hk)).2.2
  have hkr := known_range (hkn _ (List.getElem_mem hk))
  good_of hk 91 9 ho (by decide) (by decide) (by decide) (by decide) oplut_9 (fun a b w => by kernel_rfl) fun cb w s hcx hloc hleft hbad hlen hdl => by
    have e : doS x l[k] s = pushS l[k].a s := by simp [doS, hloc, ho]
    rw [e] at hdl ⊢
    rw [ho] at hkr
    have hr : -128 ≤ l[k].a ∧ l[k].a < 128 := by simpa [knownR] using hkr
    have ev : IntKind.i8.wrap (((UInt8.ofNat (u64of l[k].a % 256)).toNat : Nat) : Int) = l[k].a := by rw [ofn, iwrap8]; unfold u64of; omega
    exact .inr ⟨hloc, hbad, oconst1s_any D cb w s.stack s.pieces _ _ (UInt8.ofNat (u64of l[k].a % 256)) l[k].a hcx (by omega) (atc hcode hk (by rw [ho]; show eopnd _ _ _ _ ++ [] = _; rw [List.append_nil]; rfl)) ev ha⟩
theorem good_10 {D : CxD} {x : LWorld} {l : List LCall} {k : Nat} (hk : k < l.length) (hcode : D.code = exprL l) (hkn : ∀ c ∈ l, knownB c.op c.a c.data.length = true) (hi : ∀ c ∈ l, i64 c.op ∧ i64 c.a ∧ i64 c.b) (hS : CxS D x) (hcfa : D.cfa = x.cfa) (hbase : D.base = x.base) (ho : l[k].op = 10) : OpGood D x l k l[k] :=
  have ha := (hi _ (List.getElem_mem hk)).2.1
  have hb2 := (hi _ (List.getElem_mem hk)).2.2
  have hkr := known_range (hkn _ (List.getElem_mem hk))
  good_of hk 90 10 ho (by decide) (by decide) (by decide) (by decide) oplut_10 (fun a b w => by kernel_rfl) fun cb w s hcx hloc hleft hbad hlen hdl => by
    have e : doS x l[k] s = pushS l[k].a s := by simp [doS, hloc, ho]
    rw [e] at hdl ⊢
    rw [ho] at hkr
    have hr : 0 ≤ l[k].a ∧ l[k].a < 65536 := by simpa [knownR] using hkr
    have h1 := oconst2u_any D cb w s.stack s.pieces _ _ (leL (u64of l[k].a) 2) _ hcx (by omega) (atc hcode hk (by rw [ho]; show eopnd _ _ _ _ ++ [] = _; rw [List.append_nil]; rfl)) (leL_length _ _) rfl
    have ev : wrap64 ((leval (leL (u64of l[k].a) 2) : Nat) : Int) = l[k].a := by rw [leval_u64]; unfold wrap64 u64of; omega
    rw [ev] at h1
    exact .inr ⟨hloc, hbad, h1⟩
theorem good_12 {D : CxD} {x : LWorld} {l : List LCall} {k : Nat} (hk : k < l.length) (hcode : D.code = exprL l) (hkn : ∀ c ∈ l, knownB c.op c.a c.data.length = true) (hi : ∀ c ∈ l, i64 c.op ∧ i64 c.a ∧ i64 c.b) (hS : CxS D x) (hcfa : D.cfa = x.cfa) (hbase : D.base = x.base) (ho : l[k].op = 12) : OpGood D x l k l[k] :=
  have ha := (hi _ (List.getElem_mem hk)).2.1
  have hb2 := (hi _ (List.getElem_mem hk)).2.2
  have hkr := known_range (hkn _ (List.getElem_mem hk))
  good_of hk 90 12 ho (by decide) (by decide) (by decide) (by decide) oplut_12 (fun a b w => by kernel_rfl) fun cb w s hcx hloc hleft hbad hlen hdl => by
    have e : doS x l[k] s = pushS l[k].a s := by simp [doS, hloc, ho]
    rw [e] at hdl ⊢
    rw [ho] at hkr
    have hr : 0 ≤ l[k].a ∧ l[k].a < 4294967296 := by simpa [knownR] using hkr
    have h1 := oconst4u_any D cb w s.stack s.pieces _ _ (leL (u64of l[k].a) 4) _ hcx (by omega) (atc hcode hk (by rw [ho]; show eopnd _ _ _ _ ++ [] = _; rw [List.append_nil]; rfl)) (leL_length _ _) rfl
    have ev : wrap64 ((leval (leL (u64of l[k].a) 4) : Nat) : Int) = l[k].a := by rw [leval_u64]; unfold wrap64 u64of; omega
    rw [ev] at h1
    exact .inr ⟨hloc, hbad, h1⟩
theorem good_14 {D : CxD} {x : LWorld} {l : List LCall} {k : Nat} (hk : k < l.length) (hcode : D.code = exprL l) (hkn : ∀ c ∈ l, knownB c.op c.a c.data.length = true) (hi : ∀ c ∈ l, i64 c.op ∧ i64 c.a ∧ i64 c.b) (hS : CxS D x) (hcfa : D.cfa = x.cfa) (hbase : D.base = x.base) (ho : l[k].op = 14) : OpGood D x l k l[k] :=
  have ha := (hi _ (List.getElem_mem hk)).2.1
  have hb2 := (hi _ (List.getElem_mem hk)).2.2
  have hkr := known_range (hkn _ (List.getElem_mem hk))
  good_of hk 90 14 ho (by decide) (by decide) (by decide) (by decide) oplut_14 (fun a b w => by kernel_rfl) fun cb w s hcx hloc hleft hbad hlen hdl => by
    have e : doS x l[k] s = pushS l[k].a s := by simp [doS, hloc, ho]
    rw [e] at hdl ⊢
    rw [ho] at hkr
    have h1 := oconst8u_any D cb w s.stack s.pieces _ _ (leL (u64of l[k].a) 8) (u64of l[k].a) hcx (by omega) (atc hcode hk (by rw [ho]; show eopnd _ _ _ _ ++ [] = _; rw [List.append_nil]; rfl)) (leL_length _ _) (by rw [leval_leL]; exact Nat.mod_eq_of_lt (u64of_lt _))
    rw [wrap_u64of ha] at h1
    exact .inr ⟨hloc, hbad, h1⟩
theorem good_11 {D : CxD} {x : LWorld} {l : List LCall} {k : Nat} (hk : k < l.length) (hcode : D.code = exprL l) (hkn : ∀ c ∈ l, knownB c.op c.a c.data.length = true) (hi : ∀ c ∈ l, i64 c.op ∧ i64 c.a ∧ i64 c.b) (hS : CxS D x) (hcfa : D.cfa = x.cfa) (hbase : D.base = x.base) (ho : l[k].op = 11) : OpGood D x l k l[k] :=
  have ha := (hi _ (List.getElem_mem hk)).2.1
  have hb2 := (hi _ (List.getElem_mem hk)).2.2
  have hkr := known_range (hkn _ (List.getElem_mem hk))
  good_of hk 91 11 ho (by decide) (by decide) (by decide) (by decide) oplut_11 (fun a b w => by kernel_rfl) fun cb w s hcx hloc hleft hbad hlen hdl => by
    have e : doS x l[k] s = pushS l[k].a s := by simp [doS, hloc, ho]
    rw [e] at hdl ⊢
    rw [ho] at hkr
    have hr : -32768 ≤ l[k].a ∧ l[k].a < 32768 := by simpa [knownR] using hkr
    have ev : IntKind.i16.wrap ((leval (leL (u64of l[k].a) 2) : Nat) : Int) = l[k].a := by rw [leval_u64, iwrap16]; unfold u64of; omega
    exact .inr ⟨hloc, hbad, oconst2s_any D cb w s.stack s.pieces _ _ (leL (u64of l[k].a) 2) _ l[k].a hcx (by omega) (atc hcode hk (by rw [ho]; show eopnd _ _ _ _ ++ [] = _; rw [List.append_nil]; rfl)) (leL_length _ _) rfl ev ha⟩
theorem good_13 {D : CxD} {x : LWorld} {l : List LCall} {k : Nat} (hk : k < l.length) (hcode : D.code = exprL l) (hkn : ∀ c ∈ l, knownB c.op c.a c.data.length = true) (hi : ∀ c ∈ l, i64 c.op ∧ i64 c.a ∧ i64 c.b) (hS : CxS D x) (hcfa : D.cfa = x.cfa) (hbase : D.base = x.base) (ho : l[k].op = 13) : OpGood D x l k l[k] :=
  have ha := (hi _ (List.getElem_mem hk)).2.1
  have hb2 := (hi _ (List.getElem_mem hk)).2.2
  have hkr := known_range (hkn _ (List.getElem_mem hk))
  good_of hk 91 13 ho (by decide) (by decide) (by decide) (by decide) oplut_13 (fun a b w => by kernel_rfl) fun cb w s hcx hloc hleft hbad hlen hdl => by
    have e : doS x l[k] s = pushS l[k].a s := by simp [doS, hloc, ho]
    rw [e] at hdl ⊢
    rw [ho] at hkr
    have hr : -2147483648 ≤ l[k].a ∧ l[k].a < 2147483648 := by simpa [knownR] using hkr
    have ev : IntKind.i32.wrap ((leval (leL (u64of l[k].a) 4) : Nat) : Int) = l[k].a := by rw [leval_u64, IntKind.wrap_i32]; unfold u64of; omega
    exact .inr ⟨hloc, hbad, oconst4s_any D cb w s.stack s.pieces _ _ (leL (u64of l[k].a) 4) _ l[k].a hcx (by omega) (atc hcode hk (by rw [ho]; show eopnd _ _ _ _ ++ [] = _; rw [List.append_nil]; rfl)) (leL_length _ _) rfl ev ha⟩
theorem good_16 {D : CxD} {x : LWorld} {l : List LCall} {k : Nat} (hk : k < l.length) (hcode : D.code = exprL l) (hkn : ∀ c ∈ l, knownB c.op c.a c.data.length = true) (hi : ∀ c ∈ l, i64 c.op ∧ i64 c.a ∧ i64 c.b) (hS : CxS D x) (hcfa : D.cfa = x.cfa) (hbase : D.base = x.base) (ho : l[k].op = 16) : OpGood D x l k l[k] :=
  have ha := (hi _ (List.getElem_mem hk)).2.1
  have hb2 := (hi _ (List.getElem_mem hk)).2.2
  have hkr := known_range (hkn _ (List.getElem_mem hk))
  good_of hk 92 16 ho (by decide) (by decide) (by decide) (by decide) oplut_16 (fun a b w => by kernel_rfl) fun cb w s hcx hloc hleft hbad hlen hdl => by
    have e : doS x l[k] s = pushS l[k].a s := by simp [doS, hloc, ho]
    rw [e] at hdl ⊢
    rw [ho] at hkr
    have h1 := oconstu_any D cb w s.stack s.pieces _ _ (u64of l[k].a) hcx (by omega) (atc hcode hk (by rw [ho]; show eopnd _ _ _ _ ++ [] = _; rw [List.append_nil]; rfl)) (u64of_lt _)
    rw [wrap_u64of ha] at h1
    exact .inr ⟨hloc, hbad, h1⟩
theorem good_3 {D : CxD} {x : LWorld} {l : List LCall} {k : Nat} (hk : k < l.length) (hcode : D.code = exprL l) (hkn : ∀ c ∈ l, knownB c.op c.a c.data.length = true) (hi : ∀ c ∈ l, i64 c.op ∧ i64 c.a ∧ i64 c.b) (hS : CxS D x) (hcfa : D.cfa = x.cfa) (hbase : D.base = x.base) (ho : l[k].op = 3) : OpGood D x l k l[k] :=
  have ha := (hi _ (List.getElem_mem hk)).2.1
  have hb2 := (hi _ (List.getElem_mem hk)).2.2
  have hkr := known_range (hkn _ (List.getElem_mem hk))
  good_of hk 88 3 ho (by decide) (by decide) (by decide) (by decide) oplut_3 (fun a b w => by kernel_rfl) fun cb w s hcx hloc hleft hbad hlen hdl => by
    have e : doS x l[k] s = pushS l[k].a s := by simp [doS, hloc, ho]
    rw [e] at hdl ⊢
    rw [ho] at hkr
    have h1 := oaddr_any D cb w s.stack s.pieces _ _ (u64of l[k].a) (leL (u64of l[k].a) 8) hcx (by omega) (atc hcode hk (by rw [ho]; show eopnd _ _ _ _ ++ [] = _; rw [List.append_nil]; rfl)) (leL_length _ _) (by rw [leval_leL]; exact Nat.mod_eq_of_lt (u64of_lt _))
    rw [wrap_u64of ha] at h1
    exact .inr ⟨hloc, hbad, h1⟩
theorem good_145 {D : CxD} {x : LWorld} {l : List LCall} {k : Nat} (hk : k < l.length) (hcode : D.code = exprL l) (hkn : ∀ c ∈ l, knownB c.op c.a c.data.length = true) (hi : ∀ c ∈ l, i64 c.op ∧ i64 c.a ∧ i64 c.b) (hS : CxS D x) (hcfa : D.cfa = x.cfa) (hbase : D.base = x.base) (ho : l[k].op = 145) : OpGood D x l k l[k] :=
  have ha := (hi _ (List.getElem_mem hk)).2.1
  have hb2 := (hi _ (List.getElem_mem hk)).2.2
  have hkr := known_range (hkn _ (List.getElem_mem hk))
  good_of hk 107 145 ho (by decide) (by decide) (by decide) (by decide) oplut_145 (fun a b w => by kernel_rfl) fun cb w s hcx hloc hleft hbad hlen hdl => by
    have e : doS x l[k] s = pushS (wrap64 (x.base + l[k].a)) s := by simp [doS, hloc, ho]
    rw [e] at hdl ⊢
    rw [ho] at hkr
    have h1 := oframebase_any D cb w s.stack s.pieces _ _ l[k].a hcx (by omega) (atc hcode hk (by rw [ho]; show eopnd _ _ _ _ ++ [] = _; rw [List.append_nil]; rfl)) ha
    rw [hbase] at h1
    exact .inr ⟨hloc, hbad, h1⟩
theorem good_156 {D : CxD} {x : LWorld} {l : List LCall} {k : Nat} (hk : k < l.length) (hcode : D.code = exprL l) (hkn : ∀ c ∈ l, knownB c.op c.a c.data.length = true) (hi : ∀ c ∈ l, i64 c.op ∧ i64 c.a ∧ i64 c.b) (hS : CxS D x) (hcfa : D.cfa = x.cfa) (hbase : D.base = x.base) (ho : l[k].op = 156) : OpGood D x l k l[k] :=
  have ha := (hi _ (List.getElem_mem hk)).2.1
  have hb2 := (hi _ (List.getElem_mem hk)).2.2
  have hkr := known_range (hkn _ (List.getElem_mem hk))
  good_of hk 109 156 ho (by decide) (by decide) (by decide) (by decide) oplut_156 (fun a b w => by kernel_rfl) fun cb w s hcx hloc hleft hbad hlen hdl => by
    have e : doS x l[k] s = pushS x.cfa (if x.cfa = 0 then s.mkLeft else s) := by simp [doS, hloc, ho]
    rw [e] at hdl ⊢
    rw [ho] at hkr
    by_cases hc : x.cfa = 0
    · rw [if_pos hc] at hdl; cases hdl
    · rw [if_neg hc]
      have h1 := ocfa_any D cb w s.stack s.pieces _ hcx (by omega) (by rw [hcfa]; exact hc)
      rw [hcfa, atc0 hk (by rw [ho]; rfl)] at h1
      exact .inr ⟨hloc, hbad, h1⟩
theorem good_18 {D : CxD} {x : LWorld} {l : List LCall} {k : Nat} (hk : k < l.length) (hcode : D.code = exprL l) (hkn : ∀ c ∈ l, knownB c.op c.a c.data.length = true) (hi : ∀ c ∈ l, i64 c.op ∧ i64 c.a ∧ i64 c.b) (hS : CxS D x) (hcfa : D.cfa = x.cfa) (hbase : D.base = x.base) (ho : l[k].op = 18) : OpGood D x l k l[k] :=
  have ha := (hi _ (List.getElem_mem hk)).2.1
  have hb2 := (hi _ (List.getElem_mem hk)).2.2
  have hkr := known_range (hkn _ (List.getElem_mem hk))
  good_of hk 94 18 ho (by decide) (by decide) (by decide) (by decide) oplut_18 (fun a b w => by kernel_rfl) fun cb w s hcx hloc hleft hbad hlen hdl => by
    have e : doS x l[k] s = pushS (popS s).1 (pushS (popS s).1 (popS s).2) := by simp [doS, hloc, ho, operateS]
    rw [e] at hdl ⊢
    rw [ho] at hkr
    rw [← atc0 hk (by rw [ho]; rfl)]
    rcases one_cases s with ⟨h1, h2⟩ | ⟨ks, v, h1, h2⟩
    · exact .inl ⟨h2, odup_err D cb w s.stack s.pieces _ hcx (by rw [h1]; rfl)⟩
    · rw [h2]
      have h3 := odup_any D cb w s.stack s.pieces _ hcx (by omega) (by rw [h1]; simp)
      have e2 : s.stack[s.stack.length - 1]'(by rw [h1]; simp) = v := by simp [h1]
      rw [e2, h1] at h3
      exact .inr ⟨hloc, hbad, h3⟩
theorem good_19 {D : CxD} {x : LWorld} {l : List LCall} {k : Nat} (hk : k < l.length) (hcode : D.code = exprL l) (hkn : ∀ c ∈ l, knownB c.op c.a c.data.length = true) (hi : ∀ c ∈ l, i64 c.op ∧ i64 c.a ∧ i64 c.b) (hS : CxS D x) (hcfa : D.cfa = x.cfa) (hbase : D.base = x.base) (ho : l[k].op = 19) : OpGood D x l k l[k] :=
  have ha := (hi _ (List.getElem_mem hk)).2.1
  have hb2 := (hi _ (List.getElem_mem hk)).2.2
  have hkr := known_range (hkn _ (List.getElem_mem hk))
  good_of hk 95 19 ho (by decide) (by decide) (by decide) (by decide) oplut_19 (fun a b w => by kernel_rfl) fun cb w s hcx hloc hleft hbad hlen hdl => by
    have e : doS x l[k] s = (popS s).2 := by simp [doS, hloc, ho, operateS]
    rw [e] at hdl ⊢
    rw [ho] at hkr
    rw [← atc0 hk (by rw [ho]; rfl)]
    rcases one_cases s with ⟨h1, h2⟩ | ⟨ks, v, h1, h2⟩
    · exact .inl ⟨h2, odrop_err D cb w s.stack s.pieces _ hcx (by rw [h1]; rfl)⟩
    · rw [h2]
      have h3 := odrop_any D cb w s.stack s.pieces _ hcx (by rw [h1]; simp)
      have e2 : s.stack.take (s.stack.length - 1) = ks := by simp [h1]
      rw [e2] at h3
      exact .inr ⟨hloc, hbad, h3⟩
theorem good_20 {D : CxD} {x : LWorld} {l : List LCall} {k : Nat} (hk : k < l.length) (hcode : D.code = exprL l) (hkn : ∀ c ∈ l, knownB c.op c.a c.data.length = true) (hi : ∀ c ∈ l, i64 c.op ∧ i64 c.a ∧ i64 c.b) (hS : CxS D x) (hcfa : D.cfa = x.cfa) (hbase : D.base = x.base) (ho : l[k].op = 20) : OpGood D x l k l[k] :=
  have ha := (hi _ (List.getElem_mem hk)).2.1
  have hb2 := (hi _ (List.getElem_mem hk)).2.2
  have hkr := known_range (hkn _ (List.getElem_mem hk))
  good_of hk 96 20 ho (by decide) (by decide) (by decide) (by decide) oplut_20 (fun a b w => by kernel_rfl) fun cb w s hcx hloc hleft hbad hlen hdl => by
    have e : doS x l[k] s = if (s.stack.length : Int) ≤ 1 then s.mkBad else pushS (s.stack.getD ((s.stack.length : Int) - 1 - 1).toNat 0) s := by simp [doS, hloc, ho, operateS]
    rw [e] at hdl ⊢
    rw [ho] at hkr
    rw [← atc0 hk (by rw [ho]; rfl)]
    by_cases h1 : (s.stack.length : Int) ≤ 1
    · rw [if_pos h1]
      exact .inl ⟨rfl, oover_err D cb w s.stack s.pieces _ hcx (by omega) (by omega)⟩
    · rw [if_neg h1]
      have h3 := oover_any D cb w s.stack s.pieces _ hcx (by omega) (by omega)
      have e2 : s.stack.getD ((s.stack.length : Int) - 1 - 1).toNat 0 = s.stack[s.stack.length - 1 - 1]'(by omega) := by
        have : ((s.stack.length : Int) - 1 - 1).toNat = s.stack.length - 1 - 1 := by omega
        rw [this, List.getD_eq_getElem?_getD, List.getElem?_eq_getElem (by omega)]; rfl
      rw [e2]
      exact .inr ⟨hloc, hbad, h3⟩
theorem good_21 {D : CxD} {x : LWorld} {l : List LCall} {k : Nat} (hk : k < l.length) (hcode : D.code = exprL l) (hkn : ∀ c ∈ l, knownB c.op c.a c.data.length = true) (hi : ∀ c ∈ l, i64 c.op ∧ i64 c.a ∧ i64 c.b) (hS : CxS D x) (hcfa : D.cfa = x.cfa) (hbase : D.base = x.base) (ho : l[k].op = 21) : OpGood D x l k l[k] :=
  have ha := (hi _ (List.getElem_mem hk)).2.1
  have hb2 := (hi _ (List.getElem_mem hk)).2.2
  have hkr := known_range (hkn _ (List.getElem_mem hk))
  good_of hk 96 21 ho (by decide) (by decide) (by decide) (by decide) oplut_21 (fun a b w => by kernel_rfl) fun cb w s hcx hloc hleft hbad hlen hdl => by
    have e : doS x l[k] s = if (s.stack.length : Int) ≤ l[k].a then s.mkBad else pushS (s.stack.getD ((s.stack.length : Int) - 1 - l[k].a).toNat 0) s := by simp [doS, hloc, ho, operateS]
    rw [e] at hdl ⊢
    rw [ho] at hkr
    have hr : 0 ≤ l[k].a ∧ l[k].a < 256 := by simpa [knownR] using hkr
    have ey : (UInt8.ofNat (u64of l[k].a % 256)).toNat = l[k].a.toNat := by rw [ofn]; unfold u64of; omega
    by_cases h1 : (s.stack.length : Int) ≤ l[k].a
    · rw [if_pos h1]
      exact .inl ⟨rfl, opick_err D cb w s.stack s.pieces _ _ (UInt8.ofNat (u64of l[k].a % 256)) _ hcx (by omega) (atc hcode hk (by rw [ho]; show eopnd _ _ _ _ ++ [] = _; rw [List.append_nil]; rfl)) ey (by omega)⟩
    · rw [if_neg h1]
      have h3 := opick_any D cb w s.stack s.pieces _ _ (UInt8.ofNat (u64of l[k].a % 256)) _ hcx (by omega) (atc hcode hk (by rw [ho]; show eopnd _ _ _ _ ++ [] = _; rw [List.append_nil]; rfl)) ey (by omega)
      have e2 : s.stack.getD ((s.stack.length : Int) - 1 - l[k].a).toNat 0 = s.stack[s.stack.length - 1 - l[k].a.toNat]'(by omega) := by
        have : ((s.stack.length : Int) - 1 - l[k].a).toNat = s.stack.length - 1 - l[k].a.toNat := by omega
        rw [this, List.getD_eq_getElem?_getD, List.getElem?_eq_getElem (by omega)]; rfl
      rw [e2]
      exact .inr ⟨hloc, hbad, h3⟩
theorem good_22 {D : CxD} {x : LWorld} {l : List LCall} {k : Nat} (hk : k < l.length) (hcode : D.code = exprL l) (hkn : ∀ c ∈ l, knownB c.op c.a c.data.length = true) (hi : ∀ c ∈ l, i64 c.op ∧ i64 c.a ∧ i64 c.b) (hS : CxS D x) (hcfa : D.cfa = x.cfa) (hbase : D.base = x.base) (ho : l[k].op = 22) : OpGood D x l k l[k] :=
  have ha := (hi _ (List.getElem_mem hk)).2.1
  have hb2 := (hi _ (List.getElem_mem hk)).2.2
  have hkr := known_range (hkn _ (List.getElem_mem hk))
  good_of hk 97 22 ho (by decide) (by decide) (by decide) (by decide) oplut_22 (fun a b w => by kernel_rfl) fun cb w s hcx hloc hleft hbad hlen hdl => by
    have e : doS x l[k] s = pushS (popS (popS s).2).1 (pushS (popS s).1 (popS (popS s).2).2) := by simp [doS, hloc, ho, operateS]
    rw [e] at hdl ⊢
    rw [ho] at hkr
    rw [← atc0 hk (by rw [ho]; rfl)]
    rcases two_cases s with ⟨h1, h2⟩ | ⟨ks, a, b, h1, h2, h3⟩
    · exact .inl ⟨h2, oswap_err D cb w s.stack s.pieces _ hcx h1⟩
    · rw [h2, h3]
      rw [h1] at hcx
      have h4 := oswap_any D cb w ks a b s.pieces _ hcx
      have e2 : ks ++ [b, a] = ks ++ [b] ++ [a] := by simp
      rw [e2] at h4
      exact .inr ⟨hloc, hbad, h4⟩
theorem good_23 {D : CxD} {x : LWorld} {l : List LCall} {k : Nat} (hk : k < l.length) (hcode : D.code = exprL l) (hkn : ∀ c ∈ l, knownB c.op c.a c.data.length = true) (hi : ∀ c ∈ l, i64 c.op ∧ i64 c.a ∧ i64 c.b) (hS : CxS D x) (hcfa : D.cfa = x.cfa) (hbase : D.base = x.base) (ho : l[k].op = 23) : OpGood D x l k l[k] :=
  have ha := (hi _ (List.getElem_mem hk)).2.1
  have hb2 := (hi _ (List.getElem_mem hk)).2.2
  have hkr := known_range (hkn _ (List.getElem_mem hk))
  good_of hk 98 23 ho (by decide) (by decide) (by decide) (by decide) oplut_23 (fun a b w => by kernel_rfl) fun cb w s hcx hloc hleft hbad hlen hdl => by
    have e : doS x l[k] s = pushS (popS (popS s).2).1 (pushS (popS (popS (popS s).2).2).1 (pushS (popS s).1 (popS (popS (popS s).2).2).2)) := by simp [doS, hloc, ho, operateS]
    rw [e] at hdl ⊢
    rw [ho] at hkr
    rw [← atc0 hk (by rw [ho]; rfl)]
    rcases three_cases s with ⟨h1, h2⟩ | ⟨ks, a, b, c, h1, h2, h3, h4⟩
    · exact .inl ⟨h2, orot_err D cb w s.stack s.pieces _ hcx h1⟩
    · rw [h2, h3, h4]
      rw [h1] at hcx
      have h5 := orot_any D cb w ks a b c s.pieces _ hcx
      have e2 : ks ++ [c, a, b] = ks ++ [c] ++ [a] ++ [b] := by simp
      rw [e2] at h5
      exact .inr ⟨hloc, hbad, h5⟩
theorem good_35 {D : CxD} {x : LWorld} {l : List LCall} {k : Nat} (hk : k < l.length) (hcode : D.code = exprL l) (hkn : ∀ c ∈ l, knownB c.op c.a c.data.length = true) (hi : ∀ c ∈ l, i64 c.op ∧ i64 c.a ∧ i64 c.b) (hS : CxS D x) (hcfa : D.cfa = x.cfa) (hbase : D.base = x.base) (ho : l[k].op = 35) : OpGood D x l k l[k] :=
  have ha := (hi _ (List.getElem_mem hk)).2.1
  have hb2 := (hi _ (List.getElem_mem hk)).2.2
  have hkr := known_range (hkn _ (List.getElem_mem hk))
  good_of hk 101 35 ho (by decide) (by decide) (by decide) (by decide) oplut_35 (fun a b w => by kernel_rfl) fun cb w s hcx hloc hleft hbad hlen hdl => by
    have e : doS x l[k] s = pushS (wrap64 ((popS s).1 + l[k].a)) (popS s).2 := by simp [doS, hloc, ho, operateS]
    rw [e] at hdl ⊢
    rw [ho] at hkr
    rcases one_cases s with ⟨h1, h2⟩ | ⟨ks, v, h1, h2⟩
    · rw [h1] at hcx
      exact .inl ⟨h2, oplusu_err D cb w s.pieces _ _ (u64of l[k].a) hcx (atc hcode hk (by rw [ho]; show eopnd _ _ _ _ ++ [] = _; rw [List.append_nil]; rfl)) (u64of_lt _)⟩
    · rw [h2]
      rw [h1] at hcx
      have h3 := oplusu_any D cb w (ks ++ [v]) s.pieces _ _ (u64of l[k].a) l[k].a v hcx (by rw [h1] at hlen; omega) (atc hcode hk (by rw [ho]; show eopnd _ _ _ _ ++ [] = _; rw [List.append_nil]; rfl)) (u64of_lt _) (wrap_u64of ha) (by simp) (by simp)
      simp only [List.length_append, List.length_singleton, Nat.add_sub_cancel, List.set_append_right, Nat.le_refl, Nat.sub_self, List.set_cons_zero] at h3
      exact .inr ⟨hloc, hbad, h3⟩
theorem good_6 {D : CxD} {x : LWorld} {l : List LCall} {k : Nat} (hk : k < l.length) (hcode : D.code = exprL l) (hkn : ∀ c ∈ l, knownB c.op c.a c.data.length = true) (hi : ∀ c ∈ l, i64 c.op ∧ i64 c.a ∧ i64 c.b) (hS : CxS D x) (hcfa : D.cfa = x.cfa) (hbase : D.base = x.base) (ho : l[k].op = 6) : OpGood D x l k l[k] :=
  have ha := (hi _ (List.getElem_mem hk)).2.1
  have hb2 := (hi _ (List.getElem_mem hk)).2.2
  have hkr := known_range (hkn _ (List.getElem_mem hk))
  good_of hk 89 6 ho (by decide) (by decide) (by decide) (by decide) oplut_6 (fun a b w => by kernel_rfl) fun cb w s hcx hloc hleft hbad hlen hdl => by
    have e : doS x l[k] s = pushS (loadS x (u64of (popS s).1) 8 (popS s).2).1 (loadS x (u64of (popS s).1) 8 (popS s).2).2 := by simp [doS, hloc, ho, operateS]
    rw [e] at hdl ⊢
    rw [ho] at hkr
    rw [← atc0 hk (by rw [ho]; rfl)]
    rcases one_cases s with ⟨h1, h2⟩ | ⟨ks, v, h1, h2⟩
    · refine .inl ⟨?_, oderef_6_empty D cb w s.pieces _ (by rw [h1] at hcx; exact hcx)⟩
      unfold loadS; split <;> first | exact h2 | rfl
    · rw [h2]
      rw [h1] at hcx
      have hks : ks.length ≤ 4000 := by rw [h1] at hlen; simp at hlen; omega
      by_cases hm : x.at_ ≤ u64of v ∧ u64of v - x.at_ ≤ x.mem.length ∧ 8 ≤ x.mem.length - (u64of v - x.at_)
      · simp only [loadS, hm, and_self, if_true]
        exact .inr ⟨hloc, hbad, oderef_6_8 D cb w ks s.pieces x _ v (u64of v) _ _ hS hcx (by omega) (u64_wrap_u v) (u64of_lt v) hm.1 hm.2.1 hm.2.2 rfl rfl⟩
      · simp only [loadS, hm, if_false]
        exact .inl ⟨rfl, oderef_6_8_bad D cb w ks s.pieces x _ v (u64of v) hS hcx (by omega) (u64_wrap_u v) (u64of_lt v) hm⟩
theorem good_148 {D : CxD} {x : LWorld} {l : List LCall} {k : Nat} (hk : k < l.length) (hcode : D.code = exprL l) (hkn : ∀ c ∈ l, knownB c.op c.a c.data.length = true) (hi : ∀ c ∈ l, i64 c.op ∧ i64 c.a ∧ i64 c.b) (hS : CxS D x) (hcfa : D.cfa = x.cfa) (hbase : D.base = x.base) (ho : l[k].op = 148) : OpGood D x l k l[k] :=
  have ha := (hi _ (List.getElem_mem hk)).2.1
  have hb2 := (hi _ (List.getElem_mem hk)).2.2
  have hkr := known_range (hkn _ (List.getElem_mem hk))
  good_of hk 89 148 ho (by decide) (by decide) (by decide) (by decide) oplut_148 (fun a b w => by kernel_rfl) fun cb w s hcx hloc hleft hbad hlen hdl => by
    have e : doS x l[k] s = if l[k].a ≠ 2 ∧ l[k].a ≠ 4 ∧ l[k].a ≠ 8 then s.mkLeft else pushS (loadS x (u64of (popS s).1) l[k].a.toNat (popS s).2).1 (loadS x (u64of (popS s).1) l[k].a.toNat (popS s).2).2 := by simp [doS, hloc, ho, operateS]
    rw [e] at hdl ⊢
    rw [ho] at hkr
    by_cases hv : l[k].a ≠ 2 ∧ l[k].a ≠ 4 ∧ l[k].a ≠ 8
    · rw [if_pos hv] at hdl; cases hdl
    rw [if_neg hv]
    have ha0 : AtC D (pl l k + 1) [UInt8.ofNat (u64of l[k].a % 256)] (pl l (k + 1)) := (atc hcode hk (by rw [ho]; show eopnd _ _ _ _ ++ [] = _; rw [List.append_nil]; rfl))
    have h3 : l[k].a = 2 ∨ l[k].a = 4 ∨ l[k].a = 8 := by omega
    clear hdl e hkr
    rcases h3 with hn | hn | hn
    · have e1 : ([UInt8.ofNat (u64of l[k].a % 256)] : List UInt8) = [2] := by rw [hn]; rfl
      have ha1 : AtC D (pl l k + 1) [2] (pl l (k + 1)) := by have := ha0; rw [e1] at this; exact this
      have e3 : l[k].a.toNat = 2 := by rw [hn]; rfl
      rw [e3]
      rcases one_cases s with ⟨h1, h2⟩ | ⟨ks, v, h1, h2⟩
      · refine .inl ⟨?_, oderef_148_empty D cb w s.pieces _ _ 2 (by rw [h1] at hcx; exact hcx) ha1⟩
        unfold loadS; split <;> first | exact h2 | rfl
      · rw [h2]
        rw [h1] at hcx
        have hks : ks.length ≤ 4000 := by rw [h1] at hlen; simp at hlen; omega
        by_cases hm : x.at_ ≤ u64of v ∧ u64of v - x.at_ ≤ x.mem.length ∧ 2 ≤ x.mem.length - (u64of v - x.at_)
        · simp only [loadS, hm, and_self, if_true]
          exact .inr ⟨hloc, hbad, oderef_148_2 D cb w ks s.pieces x _ _ v (u64of v) _ _ hS hcx (by omega) (u64_wrap_u v) (u64of_lt v) ha1 hm.1 hm.2.1 hm.2.2 rfl rfl⟩
        · simp only [loadS, hm, if_false]
          exact .inl ⟨rfl, oderef_148_2_bad D cb w ks s.pieces x _ _ v (u64of v) hS hcx (by omega) (u64_wrap_u v) (u64of_lt v) ha1 hm⟩
    · have e1 : ([UInt8.ofNat (u64of l[k].a % 256)] : List UInt8) = [4] := by rw [hn]; rfl
      have ha1 : AtC D (pl l k + 1) [4] (pl l (k + 1)) := by have := ha0; rw [e1] at this; exact this
      have e3 : l[k].a.toNat = 4 := by rw [hn]; rfl
      rw [e3]
      rcases one_cases s with ⟨h1, h2⟩ | ⟨ks, v, h1, h2⟩
      · refine .inl ⟨?_, oderef_148_empty D cb w s.pieces _ _ 4 (by rw [h1] at hcx; exact hcx) ha1⟩
        unfold loadS; split <;> first | exact h2 | rfl
      · rw [h2]
        rw [h1] at hcx
        have hks : ks.length ≤ 4000 := by rw [h1] at hlen; simp at hlen; omega
        by_cases hm : x.at_ ≤ u64of v ∧ u64of v - x.at_ ≤ x.mem.length ∧ 4 ≤ x.mem.length - (u64of v - x.at_)
        · simp only [loadS, hm, and_self, if_true]
          exact .inr ⟨hloc, hbad, oderef_148_4 D cb w ks s.pieces x _ _ v (u64of v) _ _ hS hcx (by omega) (u64_wrap_u v) (u64of_lt v) ha1 hm.1 hm.2.1 hm.2.2 rfl rfl⟩
        · simp only [loadS, hm, if_false]
          exact .inl ⟨rfl, oderef_148_4_bad D cb w ks s.pieces x _ _ v (u64of v) hS hcx (by omega) (u64_wrap_u v) (u64of_lt v) ha1 hm⟩
    · have e1 : ([UInt8.ofNat (u64of l[k].a % 256)] : List UInt8) = [8] := by rw [hn]; rfl
      have ha1 : AtC D (pl l k + 1) [8] (pl l (k + 1)) := by have := ha0; rw [e1] at this; exact this
      have e3 : l[k].a.toNat = 8 := by rw [hn]; rfl
      rw [e3]
      rcases one_cases s with ⟨h1, h2⟩ | ⟨ks, v, h1, h2⟩
      · refine .inl ⟨?_, oderef_148_empty D cb w s.pieces _ _ 8 (by rw [h1] at hcx; exact hcx) ha1⟩
        unfold loadS; split <;> first | exact h2 | rfl
      · rw [h2]
        rw [h1] at hcx
        have hks : ks.length ≤ 4000 := by rw [h1] at hlen; simp at hlen; omega
        by_cases hm : x.at_ ≤ u64of v ∧ u64of v - x.at_ ≤ x.mem.length ∧ 8 ≤ x.mem.length - (u64of v - x.at_)
        · simp only [loadS, hm, and_self, if_true]
          exact .inr ⟨hloc, hbad, oderef_148_8 D cb w ks s.pieces x _ _ v (u64of v) _ _ hS hcx (by omega) (u64_wrap_u v) (u64of_lt v) ha1 hm.1 hm.2.1 hm.2.2 rfl rfl⟩
        · simp only [loadS, hm, if_false]
          exact .inl ⟨rfl, oderef_148_8_bad D cb w ks s.pieces x _ _ v (u64of v) hS hcx (by omega) (u64_wrap_u v) (u64of_lt v) ha1 hm⟩
theorem oplut_lit (op : Nat) (h1 : 48 ≤ op) (h2 : op < 80) (w : World) : OplutP 104 op w := by
  have h : op = 48 ∨ op = 49 ∨ op = 50 ∨ op = 51 ∨ op = 52 ∨ op = 53 ∨ op = 54 ∨ op = 55 ∨ op = 56 ∨ op = 57 ∨ op = 58 ∨ op = 59 ∨ op = 60 ∨ op = 61 ∨ op = 62 ∨ op = 63 ∨ op = 64 ∨ op = 65 ∨ op = 66 ∨ op = 67 ∨ op = 68 ∨ op = 69 ∨ op = 70 ∨ op = 71 ∨ op = 72 ∨ op = 73 ∨ op = 74 ∨ op = 75 ∨ op = 76 ∨ op = 77 ∨ op = 78 ∨ op = 79 := by omega
  rcases h with rfl | rfl | rfl | rfl | rfl | rfl | rfl | rfl | rfl | rfl | rfl | rfl | rfl | rfl | rfl | rfl | rfl | rfl | rfl | rfl | rfl | rfl | rfl | rfl | rfl | rfl | rfl | rfl | rfl | rfl | rfl | rfl
  · exact oplut_48 w
  · exact oplut_49 w
  · exact oplut_50 w
  · exact oplut_51 w
  · exact oplut_52 w
  · exact oplut_53 w
  · exact oplut_54 w
  · exact oplut_55 w
  · exact oplut_56 w
  · exact oplut_57 w
  · exact oplut_58 w
  · exact oplut_59 w
  · exact oplut_60 w
  · exact oplut_61 w
  · exact oplut_62 w
  · exact oplut_63 w
  · exact oplut_64 w
  · exact oplut_65 w
  · exact oplut_66 w
  · exact oplut_67 w
  · exact oplut_68 w
  · exact oplut_69 w
  · exact oplut_70 w
  · exact oplut_71 w
  · exact oplut_72 w
  · exact oplut_73 w
  · exact oplut_74 w
  · exact oplut_75 w
  · exact oplut_76 w
  · exact oplut_77 w
  · exact oplut_78 w
  · exact oplut_79 w
theorem oplut_reg (op : Nat) (h1 : 80 ≤ op) (h2 : op < 112) (w : World) : OplutP 105 op w := by
  have h : op = 80 ∨ op = 81 ∨ op = 82 ∨ op = 83 ∨ op = 84 ∨ op = 85 ∨ op = 86 ∨ op = 87 ∨ op = 88 ∨ op = 89 ∨ op = 90 ∨ op = 91 ∨ op = 92 ∨ op = 93 ∨ op = 94 ∨ op = 95 ∨ op = 96 ∨ op = 97 ∨ op = 98 ∨ op = 99 ∨ op = 100 ∨ op = 101 ∨ op = 102 ∨ op = 103 ∨ op = 104 ∨ op = 105 ∨ op = 106 ∨ op = 107 ∨ op = 108 ∨ op = 109 ∨ op = 110 ∨ op = 111 := by omega
  rcases h with rfl | rfl | rfl | rfl | rfl | rfl | rfl | rfl | rfl | rfl | rfl | rfl | rfl | rfl | rfl | rfl | rfl | rfl | rfl | rfl | rfl | rfl | rfl | rfl | rfl | rfl | rfl | rfl | rfl | rfl | rfl | rfl
  · exact oplut_80 w
  · exact oplut_81 w
  · exact oplut_82 w
  · exact oplut_83 w
  · exact oplut_84 w
  · exact oplut_85 w
  · exact oplut_86 w
  · exact oplut_87 w
  · exact oplut_88 w
  · exact oplut_89 w
  · exact oplut_90 w
  · exact oplut_91 w
  · exact oplut_92 w
  · exact oplut_93 w
  · exact oplut_94 w
  · exact oplut_95 w
  · exact oplut_96 w
  · exact oplut_97 w
  · exact oplut_98 w
  · exact oplut_99 w
  · exact oplut_100 w
  · exact oplut_101 w
  · exact oplut_102 w
  · exact oplut_103 w
  · exact oplut_104 w
  · exact oplut_105 w
  · exact oplut_106 w
  · exact oplut_107 w
  · exact oplut_108 w
  · exact oplut_109 w
  · exact oplut_110 w
  · exact oplut_111 w
theorem oplut_breg (op : Nat) (h1 : 112 ≤ op) (h2 : op < 144) (w : World) : OplutP 106 op w := by
  have h : op = 112 ∨ op = 113 ∨ op = 114 ∨ op = 115 ∨ op = 116 ∨ op = 117 ∨ op = 118 ∨ op = 119 ∨ op = 120 ∨ op = 121 ∨ op = 122 ∨ op = 123 ∨ op = 124 ∨ op = 125 ∨ op = 126 ∨ op = 127 ∨ op = 128 ∨ op = 129 ∨ op = 130 ∨ op = 131 ∨ op = 132 ∨ op = 133 ∨ op = 134 ∨ op = 135 ∨ op = 136 ∨ op = 137 ∨ op = 138 ∨ op = 139 ∨ op = 140 ∨ op = 141 ∨ op = 142 ∨ op = 143 := by omega
  rcases h with rfl | rfl | rfl | rfl | rfl | rfl | rfl | rfl | rfl | rfl | rfl | rfl | rfl | rfl | rfl | rfl | rfl | rfl | rfl | rfl | rfl | rfl | rfl | rfl | rfl | rfl | rfl | rfl | rfl | rfl | rfl | rfl
  · exact oplut_112 w
  · exact oplut_113 w
  · exact oplut_114 w
  · exact oplut_115 w
  · exact oplut_116 w
  · exact oplut_117 w
  · exact oplut_118 w
  · exact oplut_119 w
  · exact oplut_120 w
  · exact oplut_121 w
  · exact oplut_122 w
  · exact oplut_123 w
  · exact oplut_124 w
  · exact oplut_125 w
  · exact oplut_126 w
  · exact oplut_127 w
  · exact oplut_128 w
  · exact oplut_129 w
  · exact oplut_130 w
  · exact oplut_131 w
  · exact oplut_132 w
  · exact oplut_133 w
  · exact oplut_134 w
  · exact oplut_135 w
  · exact oplut_136 w
  · exact oplut_137 w
  · exact oplut_138 w
  · exact oplut_139 w
  · exact oplut_140 w
  · exact oplut_141 w
  · exact oplut_142 w
  · exact oplut_143 w
theorem good_lit {D : CxD} {x : LWorld} {l : List LCall} {k : Nat} (hk : k < l.length) (hcode : D.code = exprL l) (hkn : ∀ c ∈ l, knownB c.op c.a c.data.length = true) (hi : ∀ c ∈ l, i64 c.op ∧ i64 c.a ∧ i64 c.b) (hS : CxS D x) (hcfa : D.cfa = x.cfa) (hbase : D.base = x.base) (h1 : 48 ≤ l[k].op) (h2 : l[k].op < 80) : OpGood D x l k l[k] := by
  have ha := (hi _ (List.getElem_mem hk)).2.1
  obtain ⟨j, hj⟩ : ∃ j : Nat, l[k].op = ((48 + j : Nat) : Int) := ⟨(l[k].op - 48).toNat, by omega⟩
  have hj2 : 48 + j < 80 := by omega
  refine good_of hk 104 (48 + j) hj (by omega) (by omega) (by omega) (by omega) (oplut_lit (48 + j) (by omega) hj2) (fun a b w => by kernel_rfl) fun cb w s hcx hloc hleft hbad hlen hdl => ?_
  have ej : l[k].op - 48 = (j : Int) := by omega
  have e : doS x l[k] s = pushS ((48 + j : Nat) - 48 : Int) s := by
    unfold doS
    rw [if_neg (by simp [hloc])]
    rw [if_pos ⟨h1, h2⟩, hj]
  rw [e] at hdl ⊢
  have h3 := oliteral_any D cb w s.stack s.pieces _ (48 + j) hcx (by omega) (by omega) hj2
  rw [atc0 hk (by simp [eshape, h1, h2])] at h3
  exact .inr ⟨hloc, hbad, h3⟩
theorem good_breg {D : CxD} {x : LWorld} {l : List LCall} {k : Nat} (hk : k < l.length) (hcode : D.code = exprL l) (hkn : ∀ c ∈ l, knownB c.op c.a c.data.length = true) (hi : ∀ c ∈ l, i64 c.op ∧ i64 c.a ∧ i64 c.b) (hS : CxS D x) (hcfa : D.cfa = x.cfa) (hbase : D.base = x.base) (h1 : 112 ≤ l[k].op) (h2 : l[k].op < 144) : OpGood D x l k l[k] := by
  have ha := (hi _ (List.getElem_mem hk)).2.1
  obtain ⟨j, hj⟩ : ∃ j : Nat, l[k].op = ((112 + j : Nat) : Int) := ⟨(l[k].op - 112).toNat, by omega⟩
  have hj2 : 112 + j < 144 := by omega
  refine good_of hk 106 (112 + j) hj (by omega) (by omega) (by omega) (by omega) (oplut_breg (112 + j) (by omega) hj2) (fun a b w => by kernel_rfl) fun cb w s hcx hloc hleft hbad hlen hdl => ?_
  have ej : l[k].op - 112 = (j : Int) := by omega
  have e : doS x l[k] s = pushS (wrap64 ((registerS x (j : Int) s).1 + l[k].a)) (registerS x (j : Int) s).2 := by
    unfold doS
    rw [if_neg (by simp [hloc])]
    rw [if_neg (by omega), if_neg (by omega), if_pos ⟨h1, h2⟩, ej]
  rw [e] at hdl ⊢
  have es : (eshape l[k].op).1 = [115] := by
    unfold eshape; rw [if_neg (by omega), if_pos ⟨h1, h2⟩]
  have ha1 : AtC D (pl l k + 1) (sleb l[k].a) (pl l (k + 1)) := atc hcode hk (by rw [es]; show eopnd _ _ _ _ ++ [] = _; rw [List.append_nil]; rfl)
  by_cases hx : j < x.regs.length
  · have hr : registerS x (j : Int) s = (wrap64 ((x.regs.getD j 0 : Nat) : Int), s) := by unfold registerS; rw [if_pos ⟨by omega, by omega⟩]; simp
    rw [hr]
    exact .inr ⟨hloc, hbad, obreg_any D cb w s.stack s.pieces _ _ (112 + j) j l[k].a x _ hcx (by omega) hS rfl hj2 ha1 ha hx rfl⟩
  · have hr : registerS x (j : Int) s = (0, s.mkBad) := by unfold registerS; rw [if_neg (by omega)]
    rw [hr]
    exact .inl ⟨rfl, obreg_err D cb w s.stack s.pieces _ _ (112 + j) j l[k].a x hcx hS rfl hj2 ha1 ha (by omega)⟩
theorem good_146 {D : CxD} {x : LWorld} {l : List LCall} {k : Nat} (hk : k < l.length) (hcode : D.code = exprL l) (hkn : ∀ c ∈ l, knownB c.op c.a c.data.length = true) (hi : ∀ c ∈ l, i64 c.op ∧ i64 c.a ∧ i64 c.b) (hS : CxS D x) (hcfa : D.cfa = x.cfa) (hbase : D.base = x.base) (ho : l[k].op = 146) : OpGood D x l k l[k] :=
  have ha := (hi _ (List.getElem_mem hk)).2.1
  have hb2 := (hi _ (List.getElem_mem hk)).2.2
  have hkr := known_range (hkn _ (List.getElem_mem hk))
  good_of hk 106 146 ho (by decide) (by decide) (by decide) (by decide) oplut_146 (fun a b w => by kernel_rfl) fun cb w s hcx hloc hleft hbad hlen hdl => by
    have e : doS x l[k] s = pushS (wrap64 ((registerS x l[k].a s).1 + l[k].b)) (registerS x l[k].a s).2 := by simp [doS, hloc, ho]
    rw [e] at hdl ⊢
    rw [ho] at hkr
    have hr0 : 0 ≤ l[k].a ∧ l[k].a < 1048576 := by simpa [knownR] using hkr
    obtain ⟨j, hj⟩ : ∃ j : Nat, l[k].a = (j : Int) := ⟨l[k].a.toNat, by omega⟩
    have hu : u64of l[k].a = j := by rw [u64of_pos hr0.1 (by omega)]; omega
    have hat : AtC D (pl l k + 1) (uleb j ++ sleb l[k].b) (pl l (k + 1)) := atc hcode hk (by rw [ho]; show eopnd _ _ _ _ ++ (eopnd _ _ _ _ ++ []) = _; rw [List.append_nil, ← hu]; rfl)
    obtain ⟨ha0, ha1⟩ := hat.split
    rw [hj]
    by_cases hx : j < x.regs.length
    · have hr : registerS x (j : Int) s = (wrap64 ((x.regs.getD j 0 : Nat) : Int), s) := by unfold registerS; rw [if_pos ⟨by omega, by omega⟩]; simp
      rw [hr]
      exact .inr ⟨hloc, hbad, obregx_any D cb w s.stack s.pieces _ _ _ j l[k].b x _ hcx (by omega) hS ha0 (by omega) ha1 hb2 hx rfl⟩
    · have hr : registerS x (j : Int) s = (0, s.mkBad) := by unfold registerS; rw [if_neg (by omega)]
      rw [hr]
      exact .inl ⟨rfl, obregx_err D cb w s.stack s.pieces _ _ _ j l[k].b x hcx hS ha0 (by omega) ha1 hb2 (by omega)⟩
theorem good_147 {D : CxD} {x : LWorld} {l : List LCall} {k : Nat} (hk : k < l.length) (hcode : D.code = exprL l) (hkn : ∀ c ∈ l, knownB c.op c.a c.data.length = true) (hi : ∀ c ∈ l, i64 c.op ∧ i64 c.a ∧ i64 c.b) (hS : CxS D x) (hcfa : D.cfa = x.cfa) (hbase : D.base = x.base) (ho : l[k].op = 147) : OpGood D x l k l[k] :=
  have ha := (hi _ (List.getElem_mem hk)).2.1
  have hb2 := (hi _ (List.getElem_mem hk)).2.2
  have hkr := known_range (hkn _ (List.getElem_mem hk))
  good_ofp hk 108 147 ho (by decide) (by decide) (by decide) (by decide) oplut_147 (fun a b w => by kernel_rfl) fun cb w s hcx hloc hleft hbad hplen hdl => by
    have e : doS x l[k] s = pieceS l[k].a s := by simp [doS, hloc, ho]
    rw [e] at hdl ⊢
    rw [ho] at hkr
    have hr0 : 0 ≤ l[k].a ∧ l[k].a < 1048576 := by simpa [knownR] using hkr
    have hu : u64of l[k].a = l[k].a.toNat := u64of_pos hr0.1 (by omega)
    have hat : AtC D (pl l k + 1) (uleb l[k].a.toNat) (pl l (k + 1)) := atc hcode hk (by rw [ho, ← hu]; show eopnd _ _ _ _ ++ [] = _; rw [List.append_nil]; rfl)
    unfold pieceS at hdl ⊢
    by_cases h0 : l[k].a = 0
    · rw [if_pos h0] at hdl; cases hdl
    rw [if_neg h0] at hdl ⊢
    simp only [hloc] at hdl ⊢
    by_cases h1 : s.stack.length = 1
    · rw [if_pos h1] at hdl ⊢
      obtain ⟨v, hv⟩ := List.length_eq_one_iff.1 h1
      have hp : popS s = (v, { s with stack := [] }) := popS_snoc (l := []) (by rw [hv]; rfl)
      rw [hp]
      rw [hv] at hcx
      have h3 := opiece_any D cb w [] s.pieces _ _ l[k].a.toNat v (u64of v) hcx (by omega) hat (by omega) (u64_wrap_u v) rfl
      have e2 : ((l[k].a.toNat : Nat) : Int) = l[k].a := by omega
      rw [e2] at h3
      exact ⟨hloc, hbad, h3⟩
    · rw [if_neg h1] at hdl; cases hdl
theorem good_reg {D : CxD} {x : LWorld} {l : List LCall} {k : Nat} (hk : k < l.length) (hcode : D.code = exprL l) (hkn : ∀ c ∈ l, knownB c.op c.a c.data.length = true) (hi : ∀ c ∈ l, i64 c.op ∧ i64 c.a ∧ i64 c.b) (hS : CxS D x) (hcfa : D.cfa = x.cfa) (hbase : D.base = x.base) (h1 : 80 ≤ l[k].op) (h2 : l[k].op < 112) : OpGood D x l k l[k] := by
  have ha := (hi _ (List.getElem_mem hk)).2.1
  obtain ⟨j, hj⟩ : ∃ j : Nat, l[k].op = ((80 + j : Nat) : Int) := ⟨(l[k].op - 80).toNat, by omega⟩
  have hj2 : 80 + j < 112 := by omega
  refine good_place hk hcode hkn 105 (80 + j) hj (by omega) (by omega) (by omega) (by omega) (oplut_reg (80 + j) (by omega) hj2) (fun a b w => by kernel_rfl) fun cb w s hcx hloc hleft hbad hlen hdl => ?_
  have ej : l[k].op - 80 = (j : Int) := by omega
  have e : doS x l[k] s = placeS ⟨1, (j : Int), 0, [], false⟩ s := by
    unfold doS
    rw [if_neg (by simp [hloc])]
    rw [if_neg (by omega), if_pos ⟨h1, h2⟩, ej]
  rw [e] at hdl ⊢
  unfold placeS at hdl ⊢
  by_cases hs : s.stack = []
  · rw [if_pos hs]
    refine .inr ⟨hbad, ⟨1, (j : Int), 0, [], false⟩, by rw [← hs], fun R hcl => ?_⟩
    rw [hs] at hcx
    have hu : u64of (j : Int) = j := by unfold u64of; omega
    rw [atc0 hk (by unfold eshape; rw [if_pos (.inr ⟨h1, h2⟩)])] at hcx
    refine oreg_any D cb w [] s.pieces _ (80 + j) j R hcx rfl hj2 fun w' opc h => ?_
    have h5 := hcl w' opc (.slice none 0 0) h (.inr ⟨by simp, rfl⟩)
    rw [hu] at h5; exact h5
  · rw [if_neg hs] at hdl; cases hdl
theorem good_144 {D : CxD} {x : LWorld} {l : List LCall} {k : Nat} (hk : k < l.length) (hcode : D.code = exprL l) (hkn : ∀ c ∈ l, knownB c.op c.a c.data.length = true) (hi : ∀ c ∈ l, i64 c.op ∧ i64 c.a ∧ i64 c.b) (hS : CxS D x) (hcfa : D.cfa = x.cfa) (hbase : D.base = x.base) (ho : l[k].op = 144) : OpGood D x l k l[k] :=
  have ha := (hi _ (List.getElem_mem hk)).2.1
  have hkr := known_range (hkn _ (List.getElem_mem hk))
  good_place hk hcode hkn 105 144 ho (by decide) (by decide) (by decide) (by decide) oplut_144 (fun a b w => by kernel_rfl) fun cb w s hcx hloc hleft hbad hlen hdl => by
    have e : doS x l[k] s = placeS ⟨1, l[k].a, 0, [], false⟩ s := by simp [doS, hloc, ho]
    rw [e] at hdl ⊢
    rw [ho] at hkr
    have hr0 : 0 ≤ l[k].a ∧ l[k].a < 1048576 := by simpa [knownR] using hkr
    have hu : u64of l[k].a = l[k].a.toNat := u64of_pos hr0.1 (by omega)
    have hat : AtC D (pl l k + 1) (uleb l[k].a.toNat) (pl l (k + 1)) := atc hcode hk (by rw [ho, ← hu]; show eopnd _ _ _ _ ++ [] = _; rw [List.append_nil]; rfl)
    unfold placeS at hdl ⊢
    by_cases hs : s.stack = []
    · rw [if_pos hs]
      refine .inr ⟨hbad, ⟨1, l[k].a, 0, [], false⟩, by rw [← hs], fun R hcl => ?_⟩
      rw [hs] at hcx
      refine oregx_any D cb w [] s.pieces _ _ l[k].a.toNat R hcx hat (by omega) fun w' opc h => ?_
      have h5 := hcl w' opc (.slice none 0 0) h (.inr ⟨by simp, rfl⟩)
      simp only [hu] at h5; exact h5
    · rw [if_neg hs] at hdl; cases hdl
theorem good_159 {D : CxD} {x : LWorld} {l : List LCall} {k : Nat} (hk : k < l.length) (hcode : D.code = exprL l) (hkn : ∀ c ∈ l, knownB c.op c.a c.data.length = true) (hi : ∀ c ∈ l, i64 c.op ∧ i64 c.a ∧ i64 c.b) (hS : CxS D x) (hcfa : D.cfa = x.cfa) (hbase : D.base = x.base) (ho : l[k].op = 159) : OpGood D x l k l[k] :=
  have ha := (hi _ (List.getElem_mem hk)).2.1
  have hkr := known_range (hkn _ (List.getElem_mem hk))
  good_place hk hcode hkn 111 159 ho (by decide) (by decide) (by decide) (by decide) oplut_159 (fun a b w => by kernel_rfl) fun cb w s hcx hloc hleft hbad hlen hdl => by
    have e : doS x l[k] s = placeS ⟨2, (popS s).1, 0, [], true⟩ (popS s).2 := by simp [doS, hloc, ho]
    rw [e] at hdl ⊢
    rw [ho] at hkr
    rcases one_cases s with ⟨h1, h2⟩ | ⟨ks, v, h1, h2⟩
    · refine .inl ⟨?_, ostackvalue_err D cb w s.pieces _ (by rw [h1] at hcx; exact hcx)⟩
      unfold placeS; split <;> exact h2
    · rw [h2] at hdl ⊢
      unfold placeS at hdl ⊢
      by_cases hs : ks = []
      · subst hs
        simp only [if_true]
        refine .inr ⟨hbad, ⟨2, v, 0, [], true⟩, rfl, fun R hcl => ?_⟩
        rw [h1, atc0 hk (by rw [ho]; rfl)] at hcx
        refine ostackvalue_any D cb w [] s.pieces _ v (u64of v) R hcx (by simp) (u64_wrap_u v) fun w' opc h => ?_
        exact hcl w' opc (.slice none 0 0) h (.inr ⟨by simp, rfl⟩)
      · rw [if_neg hs] at hdl; cases hdl
theorem good_158 {D : CxD} {x : LWorld} {l : List LCall} {k : Nat} (hk : k < l.length) (hcode : D.code = exprL l) (hkn : ∀ c ∈ l, knownB c.op c.a c.data.length = true) (hi : ∀ c ∈ l, i64 c.op ∧ i64 c.a ∧ i64 c.b) (hS : CxS D x) (hcfa : D.cfa = x.cfa) (hbase : D.base = x.base) (ho : l[k].op = 158) : OpGood D x l k l[k] :=
  have ha := (hi _ (List.getElem_mem hk)).2.1
  have hkr := known_range (hkn _ (List.getElem_mem hk))
  good_place hk hcode hkn 110 158 ho (by decide) (by decide) (by decide) (by decide) oplut_158 (fun a b w => by kernel_rfl) fun cb w s hcx hloc hleft hbad hlen hdl => by
    have e : doS x l[k] s = placeS ⟨2, 0, (l[k].data.length : Nat), l[k].data, false⟩ s := by simp [doS, hloc, ho]
    rw [e] at hdl ⊢
    rw [ho] at hkr
    have hd := known_len (hkn _ (List.getElem_mem hk))
    have hat : AtC D (pl l k + 1) (uleb l[k].data.length ++ l[k].data) (pl l (k + 1)) := atc hcode hk (by rw [ho]; show eopnd _ _ _ _ ++ [] = _; rw [List.append_nil]; rfl)
    obtain ⟨ha0, ha1⟩ := hat.split
    unfold placeS at hdl ⊢
    by_cases hs : s.stack = []
    · rw [if_pos hs]
      refine .inr ⟨hbad, ⟨2, 0, (l[k].data.length : Nat), l[k].data, false⟩, by rw [← hs], fun R hcl => ?_⟩
      rw [hs] at hcx
      have hz : ((u64of 0 : Nat) : Int) = 0 := rfl
      have hcl2 : ∀ w' opc g, CxR D cb w' [] s.pieces (pl l (k + 1)) → w'.ownsRow D.W.heap.size 5 1 (.slice (some ⟨g, 0, none⟩) l[k].data.length l[k].data.length) l[k].data.length (vbs l[k].data) → Calls Try.prog 127 #[.pointer (some ⟨cb, 0, none⟩), .int .u8 opc, .agg #[vi (l[k].data.length : Int), .int .u8 2, .int .u64 0, .slice (some ⟨g, 0, none⟩) l[k].data.length l[k].data.length]] w' (RetP R) := fun w' opc g h hg => by
        have h5 := hcl w' opc (.slice (some ⟨g, 0, none⟩) l[k].data.length l[k].data.length) h (.inl ⟨rfl, rfl, ⟨_, _, rfl⟩, hg⟩)
        exact h5
      by_cases hn : 0 < l[k].data.length
      · exact oimplicit_n D cb w [] s.pieces _ _ _ l[k].data.length l[k].data R hcx ha0 ha1 rfl hd hn hcl2
      · exact oimplicit_z D cb w [] s.pieces _ _ _ l[k].data.length l[k].data R hcx ha0 ha1 rfl hd (by omega) hcl2
    · rw [if_neg hs] at hdl; cases hdl
theorem good_47 {D : CxD} {x : LWorld} {l : List LCall} {k : Nat} (hk : k < l.length) (hcode : D.code = exprL l) (hkn : ∀ c ∈ l, knownB c.op c.a c.data.length = true) (hi : ∀ c ∈ l, i64 c.op ∧ i64 c.a ∧ i64 c.b) (hS : CxS D x) (hcfa : D.cfa = x.cfa) (hbase : D.base = x.base) (ho : l[k].op = 47) (hjp : (l[k].op = 40 ∨ l[k].op = 47) → 0 ≤ l[k].a ∧ l[k].a ≤ l.length ∧ -32768 ≤ jumpD l k l[k] ∧ jumpD l k l[k] < 32768) : OpGood D x l k l[k] := by
  refine .inr ⟨103, 47, ho, by decide, by decide, oplut_47, (fun a b w => by kernel_rfl), fun cb w s fuel o hcx hloc hR => ?_⟩
  obtain ⟨j1, j2, j3, j4⟩ := hjp (by omega)
  have hd : dOf l k l[k] = jumpD l k l[k] := by unfold dOf isJump; rw [if_pos (by rw [ho]; decide)]
  have hat : AtC D (pl l k + 1) (leL (u64of (jumpD l k l[k])) 2) (pl l (k + 1)) := atc hcode hk (by rw [ho, hd]; show eopnd _ _ _ _ ++ [] = _; rw [List.append_nil]; rfl)
  have hn : IntKind.i16.wrap ((leval (leL (u64of (jumpD l k l[k])) 2) : Nat) : Int) = jumpD l k l[k] := by rw [leval_u64, iwrap16]; unfold u64of; omega
  have hal : l[k].a.toNat ≤ l.length := by omega
  have ht : (pl l (k + 1) : Int) + jumpD l k l[k] = (pl l l[k].a.toNat : Int) := by unfold jumpD; omega
  have htl : pl l l[k].a.toNat ≤ D.code.length := by rw [hcode, exprL_len]; exact pl_mono l hal
  have e : stepS x l[k] (k + 1) s = (l[k].a, s) := by simp [stepS, hloc, jumpS, ho]
  have hR2 := hR.jump hk e hR.left hR.bad
  exact (oskip_any D cb w s.stack s.pieces x _ _ _ _ _ hcx hS hat (leL_length _ _) hn ht htl).mono fun e w' h => .inr ⟨h.1, fuel, Nat.le_refl _, _, s, hal, hR2, .inl ⟨hloc, h.2⟩⟩
theorem good_40 {D : CxD} {x : LWorld} {l : List LCall} {k : Nat} (hk : k < l.length) (hcode : D.code = exprL l) (hkn : ∀ c ∈ l, knownB c.op c.a c.data.length = true) (hi : ∀ c ∈ l, i64 c.op ∧ i64 c.a ∧ i64 c.b) (hS : CxS D x) (hcfa : D.cfa = x.cfa) (hbase : D.base = x.base) (ho : l[k].op = 40) (hjp : (l[k].op = 40 ∨ l[k].op = 47) → 0 ≤ l[k].a ∧ l[k].a ≤ l.length ∧ -32768 ≤ jumpD l k l[k] ∧ jumpD l k l[k] < 32768) : OpGood D x l k l[k] := by
  refine .inr ⟨102, 40, ho, by decide, by decide, oplut_40, (fun a b w => by kernel_rfl), fun cb w s fuel o hcx hloc hR => ?_⟩
  obtain ⟨j1, j2, j3, j4⟩ := hjp (by omega)
  have hd : dOf l k l[k] = jumpD l k l[k] := by unfold dOf isJump; rw [if_pos (by rw [ho]; decide)]
  have hat : AtC D (pl l k + 1) (leL (u64of (jumpD l k l[k])) 2) (pl l (k + 1)) := atc hcode hk (by rw [ho, hd]; show eopnd _ _ _ _ ++ [] = _; rw [List.append_nil]; rfl)
  have hn : IntKind.i16.wrap ((leval (leL (u64of (jumpD l k l[k])) 2) : Nat) : Int) = jumpD l k l[k] := by rw [leval_u64, iwrap16]; unfold u64of; omega
  have hal : l[k].a.toNat ≤ l.length := by omega
  have ht : (pl l (k + 1) : Int) + jumpD l k l[k] = (pl l l[k].a.toNat : Int) := by unfold jumpD; omega
  have htl : pl l l[k].a.toNat ≤ D.code.length := by rw [hcode, exprL_len]; exact pl_mono l hal
  rcases one_cases s with ⟨h1, h2⟩ | ⟨ks, v, h1, h2⟩
  · rw [h1] at hcx
    have hp : popS s = (0, s.mkBad) := popS_nil h1
    have e : (stepS x l[k] (k + 1) s).2.left = true := by
      have hj : jumpS l[k] s = (0, false, s.mkBad.mkLeft) := by simp [jumpS, ho, hp]
      have e1 : stepS x l[k] (k + 1) s = (((k + 1 : Nat) : Int), doS x l[k] s.mkBad.mkLeft) := by simp [stepS, hloc, hj]
      rw [e1]; exact doS_40 ho rfl
    have hr := hR.run
    rw [runS_succ hk, if_pos e] at hr
    exact absurd hr.symm hR.nl
  · by_cases hv : v = 0
    · have e : (stepS x l[k] (k + 1) s).2.left = true := by
        have hj : jumpS l[k] s = (0, false, ({ s with stack := ks } : LSt).mkLeft) := by simp [jumpS, ho, h2, hv]
        have e1 : stepS x l[k] (k + 1) s = (((k + 1 : Nat) : Int), doS x l[k] ({ s with stack := ks } : LSt).mkLeft) := by simp [stepS, hloc, hj]
        rw [e1]; exact doS_40 ho rfl
      have hr := hR.run
      rw [runS_succ hk, if_pos e] at hr
      exact absurd hr.symm hR.nl
    · have hj : jumpS l[k] s = (l[k].a, true, { s with stack := ks }) := by simp [jumpS, ho, h2, hv]
      have e : stepS x l[k] (k + 1) s = (l[k].a, { s with stack := ks }) := by simp [stepS, hloc, hj]
      have hR2 := hR.jump hk e hR.left hR.bad
      rw [h1] at hcx
      have hks : ks.length ≤ 4000 := by have := hR.l1; rw [h1] at this; simp at this; omega
      exact (obra_any D cb w ks s.pieces x _ _ _ _ _ v hcx hv (by omega) hS hat (leL_length _ _) hn ht htl).mono fun e w' h => .inr ⟨h.1, fuel, Nat.le_refl _, _, { s with stack := ks }, hal, hR2, .inl ⟨hloc, h.2⟩⟩
end Go.Proofs.Ytahohmdfllgedaa

namespace Go.Proofs.Ytahohmdfllgedaa
open Go.RowKit

/-- Every operation of an expression is good. -/
theorem all_good {D : CxD} {x : LWorld} {l : List LCall} (hcode : D.code = exprL l) (he : exprOk l = true) (hi : ∀ c ∈ l, i64 c.op ∧ i64 c.a ∧ i64 c.b) (hS : CxS D x) (hcfa : D.cfa = x.cfa) (hbase : D.base = x.base) : ∀ k (h : k < l.length), OpGood D x l k l[k] := by
  intro k hk
  have hkn := exprOk_known he
  have hjp := exprOk_jump he k hk
  have hj2 : (l[k].op = 40 ∨ l[k].op = 47) → 0 ≤ l[k].a ∧ l[k].a ≤ l.length ∧ -32768 ≤ jumpD l k l[k] ∧ jumpD l k l[k] < 32768 := fun h => hjp h
  have ha := (hi _ (List.getElem_mem hk)).2.1
  have hs := eshape_ops (known_shape (hkn _ (List.getElem_mem hk)))
  by_cases h1 : 48 ≤ l[k].op ∧ l[k].op < 80
  · exact good_lit hk hcode hkn hi hS hcfa hbase h1.1 h1.2
  by_cases h2 : 80 ≤ l[k].op ∧ l[k].op < 112
  · exact good_reg hk hcode hkn hi hS hcfa hbase h2.1 h2.2
  by_cases h3 : 112 ≤ l[k].op ∧ l[k].op < 144
  · exact good_breg hk hcode hkn hi hS hcfa hbase h3.1 h3.2
  have h8 : l[k].op = 3 ∨ l[k].op = 6 ∨ l[k].op = 8 ∨ l[k].op = 9 ∨ l[k].op = 10 ∨ l[k].op = 11 ∨ l[k].op = 12 ∨ l[k].op = 13 ∨ l[k].op = 14 ∨ l[k].op = 15 ∨ l[k].op = 16 ∨ l[k].op = 17 ∨ l[k].op = 18 ∨ l[k].op = 19 ∨ l[k].op = 20 ∨ l[k].op = 21 ∨ l[k].op = 22 ∨ l[k].op = 23 ∨
      l[k].op = 25 ∨ l[k].op = 26 ∨ l[k].op = 27 ∨ l[k].op = 28 ∨ l[k].op = 29 ∨ l[k].op = 30 ∨ l[k].op = 31 ∨ l[k].op = 32 ∨ l[k].op = 33 ∨ l[k].op = 34 ∨ l[k].op = 35 ∨ l[k].op = 36 ∨ l[k].op = 37 ∨ l[k].op = 38 ∨ l[k].op = 39 ∨ l[k].op = 40 ∨ l[k].op = 41 ∨ l[k].op = 42 ∨ l[k].op = 43 ∨ l[k].op = 44 ∨ l[k].op = 45 ∨ l[k].op = 46 ∨ l[k].op = 47 ∨
      l[k].op = 144 ∨ l[k].op = 145 ∨ l[k].op = 146 ∨ l[k].op = 147 ∨ l[k].op = 148 ∨ l[k].op = 150 ∨ l[k].op = 156 ∨ l[k].op = 158 ∨ l[k].op = 159 := by omega
  clear hs h1 h2 h3 hjp
  rcases h8 with h | h | h | h | h | h | h | h | h | h | h | h | h | h | h | h | h | h | h | h | h | h | h | h | h | h | h | h | h | h | h | h | h | h | h | h | h | h | h | h | h | h | h | h | h | h | h | h | h | h
  · exact good_3 hk hcode hkn hi hS hcfa hbase h
  · exact good_6 hk hcode hkn hi hS hcfa hbase h
  · exact good_8 hk hcode hkn hi hS hcfa hbase h
  · exact good_9 hk hcode hkn hi hS hcfa hbase h
  · exact good_10 hk hcode hkn hi hS hcfa hbase h
  · exact good_11 hk hcode hkn hi hS hcfa hbase h
  · exact good_12 hk hcode hkn hi hS hcfa hbase h
  · exact good_13 hk hcode hkn hi hS hcfa hbase h
  · exact good_14 hk hcode hkn hi hS hcfa hbase h
  · exact good_15 hk hcode h ha
  · exact good_16 hk hcode hkn hi hS hcfa hbase h
  · exact good_17 hk hcode h ha
  · exact good_18 hk hcode hkn hi hS hcfa hbase h
  · exact good_19 hk hcode hkn hi hS hcfa hbase h
  · exact good_20 hk hcode hkn hi hS hcfa hbase h
  · exact good_21 hk hcode hkn hi hS hcfa hbase h
  · exact good_22 hk hcode hkn hi hS hcfa hbase h
  · exact good_23 hk hcode hkn hi hS hcfa hbase h
  · exact good_25 hk hcode h
  · exact good_26 hk hcode h
  · exact good_27 hk hcode h
  · exact good_28 hk hcode h
  · exact good_29 hk hcode h
  · exact good_30 hk hcode h
  · exact good_31 hk hcode h
  · exact good_32 hk hcode h
  · exact good_33 hk hcode h
  · exact good_34 hk hcode h
  · exact good_35 hk hcode hkn hi hS hcfa hbase h
  · exact good_36 hk hcode h
  · exact good_37 hk hcode h
  · exact good_38 hk hcode h
  · exact good_39 hk hcode h
  · exact good_40 hk hcode hkn hi hS hcfa hbase h hj2
  · exact good_41 hk hcode h
  · exact good_42 hk hcode h
  · exact good_43 hk hcode h
  · exact good_44 hk hcode h
  · exact good_45 hk hcode h
  · exact good_46 hk hcode h
  · exact good_47 hk hcode hkn hi hS hcfa hbase h hj2
  · exact good_144 hk hcode hkn hi hS hcfa hbase h
  · exact good_145 hk hcode hkn hi hS hcfa hbase h
  · exact good_146 hk hcode hkn hi hS hcfa hbase h
  · exact good_147 hk hcode hkn hi hS hcfa hbase h
  · exact good_148 hk hcode hkn hi hS hcfa hbase h
  · exact .inl h
  · exact good_156 hk hcode hkn hi hS hcfa hbase h
  · exact good_158 hk hcode hkn hi hS hcfa hbase h
  · exact good_159 hk hcode hkn hi hS hcfa hbase h
theorem FnEvaluate_true (v rv mv : Value) (l : List LCall) (x : LWorld) (w : World) (hl : RSl 4 (RCall w) w v l) (hx : RWorld w rv mv x) :
    Calls Try.prog 7 #[v, worldV rv mv x] w fun e w' => e = .returned (.bool true) ∧ Fr [] w w' :=
  FnEvaluate_walk v rv mv l x w hl hx (fun he _ hS hc hcfa hbase => all_good hc he (rcall_i64 hl) hS hcfa hbase)
end Go.Proofs.Ytahohmdfllgedaa

namespace Go.Proofs.Ytahohmdfllgedaa
open Go.RowKit

def nopC : LCall := ⟨150, 0, 0, []⟩
/-- A jump behind the place t goes one further. -/
def raiseC (t : Nat) (c : LCall) : LCall := if (c.op = 40 ∨ c.op = 47) ∧ (t : Int) < c.a then { c with a := c.a + 1 } else c
def nopL (t : Nat) (l : List LCall) : List LCall := (l.take t).map (raiseC t) ++ nopC :: (l.drop t).map (raiseC t)
theorem nopL_len (t : Nat) (l : List LCall) (h : t ≤ l.length) : (nopL t l).length = l.length + 1 := by
  simp [nopL]; omega
theorem nopL_lo (t : Nat) (l : List LCall) (h : t ≤ l.length) (k : Nat) (hk : k < t) (h1 : k < (nopL t l).length) (h2 : k < l.length) : (nopL t l)[k] = raiseC t l[k] := by
  simp only [nopL]
  rw [List.getElem_append_left (by simp; omega)]
  simp
theorem nopL_at (t : Nat) (l : List LCall) (h : t ≤ l.length) (h1 : t < (nopL t l).length) : (nopL t l)[t] = nopC := by
  simp only [nopL]
  rw [List.getElem_append_right (by simp; omega)]
  simp [Nat.min_eq_left h]
theorem nopL_hi (t : Nat) (l : List LCall) (h : t ≤ l.length) (k : Nat) (hk : t ≤ k) (h1 : k + 1 < (nopL t l).length) (h2 : k < l.length) : (nopL t l)[k + 1] = raiseC t l[k] := by
  simp only [nopL]
  rw [List.getElem_append_right (by simp; omega)]
  have e : k + 1 - ((l.take t).map (raiseC t)).length = (k - t) + 1 := by simp [Nat.min_eq_left h]; omega
  simp only [e, List.getElem_cons_succ, List.getElem_map, List.getElem_drop]
  congr 2; omega
theorem raiseC_eq (t : Nat) (c : LCall) : (raiseC t c).op = c.op ∧ (raiseC t c).b = c.b ∧ (raiseC t c).data = c.data := by
  unfold raiseC; split <;> exact ⟨rfl, rfl, rfl⟩
theorem doS_raise (x : LWorld) (t : Nat) (c : LCall) (s : LSt) : doS x (raiseC t c) s = doS x c s := by
  unfold raiseC
  split
  · next h =>
    obtain ⟨op, a, b, d⟩ := c
    rcases h.1 with e | e <;> (simp only at e; subst e; simp [doS, operateS, twoS])
  · rfl
theorem step_nop (x : LWorld) (k : Nat) (s : LSt) : stepS x nopC k s = ((k : Int), if s.loc.isSome = true then s.mkLeft else s) := by
  simp [stepS, jumpS, doS, nopC]
/-- Where the new expression stands when the old one is at k. -/
def NopAt (t k k' : Nat) : Prop := (k < t ∧ k' = k) ∨ (k = t ∧ k' = k) ∨ (t ≤ k ∧ k' = k + 1)
theorem step_raise (x : LWorld) (t : Nat) (c : LCall) (k k' : Nat) (s : LSt) (h : NopAt t k k') :
    (stepS x (raiseC t c) k' s).2 = (stepS x c k s).2 ∧ NopAt t (stepS x c k s).1.toNat (stepS x (raiseC t c) k' s).1.toNat := by
  have ho := (raiseC_eq t c).1
  have hj : (jumpS (raiseC t c) s).2 = (jumpS c s).2 := by
    simp only [jumpS, ho]; split
    · rfl
    · split
      · split <;> rfl
      · rfl
  simp only [stepS, ho]
  split
  · exact ⟨rfl, by simpa using h⟩
  · rw [hj]
    split
    · next hn ht =>
      refine ⟨rfl, ?_⟩
      have e : (jumpS c s).1 = c.a ∧ (jumpS (raiseC t c) s).1 = (raiseC t c).a ∧ (c.op = 40 ∨ c.op = 47) := by
        revert ht
        simp only [jumpS, ho]
        split
        · intro _; exact ⟨rfl, rfl, by omega⟩
        · split
          · split
            · intro _; exact ⟨rfl, rfl, by omega⟩
            · intro h; cases h
          · intro h; cases h
      rw [e.1, e.2.1]
      unfold raiseC NopAt
      by_cases h3 : (t : Int) < c.a
      · rw [if_pos ⟨e.2.2, h3⟩]; simp only; omega
      · rw [if_neg (fun h => h3 h.2)]; omega
    · exact ⟨doS_raise x t c _, by simpa using h⟩
theorem run_nop (x : LWorld) (t : Nat) (l : List LCall) (ht : t ≤ l.length) : ∀ (n f f' k k' : Nat) (s s1 s2 : LSt), f + f' ≤ n → NopAt t k k' →
    runS x l f k s = .fine s1 → runS x (nopL t l) f' k' s = .fine s2 → s1 = s2 := by
  intro n
  have hl := nopL_len t l ht
  induction n with
  | zero =>
    intro f f' k k' s s1 s2 hf hR h1 h2
    obtain rfl : f = 0 := by omega
    obtain rfl : f' = 0 := by omega
    rw [runS] at h1 h2
    split at h1
    · cases h1
    · split at h2
      · cases h2
      · rw [h1] at h2; cases h2; rfl
  | succ n ih =>
    intro f f' k k' s s1 s2 hf hR h1 h2
    by_cases hk : k' = t
    · -- the new one stands at the operation that does nothing
      subst hk
      rw [runS, dif_pos (by omega)] at h2
      cases f' with
      | zero => cases h2
      | succ f' =>
        simp only [nopL_at k' l ht, step_nop] at h2
        by_cases hL : s.loc.isSome = true
        · rw [if_pos hL] at h2; simp [LSt.mkLeft] at h2
        · rw [if_neg hL] at h2
          split at h2
          · cases h2
          · split at h2
            · cases h2
            · have hkk : k = k' := by rcases hR with h | h | h <;> omega
              subst hkk
              exact ih f f' k (k + 1) s s1 s2 (by omega) (Or.inr (Or.inr ⟨Nat.le_refl _, rfl⟩)) h1 h2
    · by_cases hkl : k < l.length
      · have hk2 : k' < (nopL t l).length := by rcases hR with h | h | h <;> omega
        have hm : (nopL t l)[k'] = raiseC t l[k] := by
          rcases hR with ⟨h, rfl⟩ | ⟨h, rfl⟩ | ⟨h, rfl⟩
          · exact nopL_lo t l ht k' h hk2 hkl
          · exact absurd h hk
          · exact nopL_hi t l ht k h hk2 hkl
        rw [runS, dif_pos hkl] at h1
        rw [runS, dif_pos hk2] at h2
        cases f with
        | zero => cases h1
        | succ f =>
          cases f' with
          | zero => cases h2
          | succ f' =>
            have hR2 : NopAt t (k + 1) (k' + 1) := by unfold NopAt at hR ⊢; omega
            obtain ⟨e1, e2⟩ := step_raise x t l[k] (k + 1) (k' + 1) s hR2
            simp only [hm, e1] at h2
            simp only at h1
            split at h1
            · cases h1
            · next hL =>
              rw [if_neg hL] at h2
              split at h1
              · cases h1
              · next hB =>
                rw [if_neg hB] at h2
                exact ih f f' _ _ _ s1 s2 (by omega) e2 h1 h2
      · have hk2 : ¬ k' < (nopL t l).length := by rcases hR with h | h | h <;> omega
        rw [runS, dif_neg hkl] at h1
        rw [runS, dif_neg hk2] at h2
        rw [h1] at h2; cases h2; rfl
theorem evalS_nop {x : LWorld} {t : Nat} {l : List LCall} (ht : t ≤ l.length) {n n' : Nat} {s1 s2 : LSt} (h1 : evalS x l n = .fine s1) (h2 : evalS x (nopL t l) n' = .fine s2) : s1 = s2 :=
  run_nop x t l ht _ _ _ 0 0 st0 s1 s2 (Nat.le_refl _) (by unfold NopAt; omega) h1 h2
/-- What the law's loop has built behind i turns. -/
def nopI (t : Nat) (l : List LCall) (i : Nat) : List LCall := if t < i then nopL t (l.take i) else (l.take i).map (raiseC t)
theorem nopL_snoc (t : Nat) (a : List LCall) (c : LCall) (h : t ≤ a.length) : nopL t (a ++ [c]) = nopL t a ++ [raiseC t c] := by
  simp [nopL, List.take_append_of_le_length h, List.drop_append_of_le_length h]
theorem nopI_ne {t i : Nat} {l : List LCall} (hi : i < l.length) (h : i ≠ t) : nopI t l (i + 1) = nopI t l i ++ [raiseC t l[i]] := by
  unfold nopI
  rw [List.take_succ_eq_append_getElem hi]
  by_cases h1 : t < i
  · rw [if_pos (by omega), if_pos h1, nopL_snoc t _ _ (by simp; omega)]
  · rw [if_neg (by omega), if_neg h1, List.map_append]; rfl
theorem nopI_eq {t : Nat} {l : List LCall} (hi : t < l.length) : nopI t l (t + 1) = (nopI t l t ++ [nopC]) ++ [raiseC t l[t]] := by
  unfold nopI
  rw [List.take_succ_eq_append_getElem hi, if_pos (by omega), if_neg (by omega), nopL_snoc t _ _ (by simp; omega)]
  simp [nopL, List.take_take]
theorem nopI_end {t : Nat} {l : List LCall} (h : t < l.length) : nopI t l l.length = nopL t l := by
  unfold nopI; rw [if_pos h, List.take_length]
theorem nopI_last {l : List LCall} : nopI l.length l l.length ++ [nopC] = nopL l.length l := by
  unfold nopI; rw [if_neg (by omega)]; simp [nopL]
end Go.Proofs.Ytahohmdfllgedaa

namespace Go.Proofs.Ytahohmdfllgedaa
open Go.RowKit

set_option maxRecDepth 100000 in
set_option maxHeartbeats 8000000 in
theorem FnN_A (v rv mv : Value) (t : Int) (l : List LCall) (x : LWorld) (w : World) (hl : RSl 4 (RCall w) w v l) (hx : RWorld w rv mv x) (h7 : fits3 l = false) :
    Calls Try.prog 8 #[v, vi t, worldV rv mv x] w fun e w' => e = .returned (.bool true) ∧ Fr [] w w' := by
  obtain ⟨la, lc, rfl, hl1, hl2⟩ := hl.shape
  obtain ⟨ra, rc, hrv, hrm⟩ := sl_len hx.rg
  obtain ⟨ma, mc, hmv, hmm⟩ := sl_len hx.mm
  simp only [List.length_map] at hrv hmv hrm hmm
  subst hrv hmv
  have Hl := Lib.hid hl
  have Hx := Lib.hid hx
  have HA : Hid (Fr [] w (w.alloc (.cells #[.slice ra x.regs.length rc, vi x.base, vi x.cfa, .int .u64 (x.at_ : Int), .slice ma x.mem.length mc] 52))) := (Fr.refl _ _).alloc _
  obtain ⟨c00, c01, c02, c03, c04⟩ := box_at (Fr.refl [] (w.alloc (.cells #[.slice ra x.regs.length rc, vi x.base, vi x.cfa, .int .u64 (x.at_ : Int), .slice ma x.mem.length mc] 52)))
  have H7 := Lib.hid h7
  clear h7
  clear hl hx
  go_enter Try.func8, Try.ntmps8
  go_wp2_with (go_at_call 24; go_must (refine (zzFits7_any w _ l _ Hl.out HA.out).mono ?_); rw [H7.out]; rintro e w1 ⟨rfl, hf1⟩; have F1 : Hid (Fr [] (w.alloc (.cells #[.slice ra x.regs.length rc, vi x.base, vi x.cfa, .int .u64 (x.at_ : Int), .slice ma x.mem.length mc] 52)) w1) := (Fr.refl [] (w.alloc (.cells #[.slice ra x.regs.length rc, vi x.base, vi x.cfa, .int .u64 (x.at_ : Int), .slice ma x.mem.length mc] 52))).then hf1; clear hf1; obtain ⟨c10, c11, c12, c13, c14⟩ := box_at F1.out; )
  go_wp2_with fail
  go_ret
  exact ⟨rfl, HA.out.then F1.out⟩

set_option maxRecDepth 100000 in
set_option maxHeartbeats 8000000 in
theorem FnN_B (v rv mv : Value) (t : Int) (l : List LCall) (x : LWorld) (w : World) (hl : RSl 4 (RCall w) w v l) (hx : RWorld w rv mv x) (h7 : fits3 l = true) (h9 : fits9 x = false) :
    Calls Try.prog 8 #[v, vi t, worldV rv mv x] w fun e w' => e = .returned (.bool true) ∧ Fr [] w w' := by
  obtain ⟨la, lc, rfl, hl1, hl2⟩ := hl.shape
  obtain ⟨ra, rc, hrv, hrm⟩ := sl_len hx.rg
  obtain ⟨ma, mc, hmv, hmm⟩ := sl_len hx.mm
  simp only [List.length_map] at hrv hmv hrm hmm
  subst hrv hmv
  have Hl := Lib.hid hl
  have Hx := Lib.hid hx
  have HA : Hid (Fr [] w (w.alloc (.cells #[.slice ra x.regs.length rc, vi x.base, vi x.cfa, .int .u64 (x.at_ : Int), .slice ma x.mem.length mc] 52))) := (Fr.refl _ _).alloc _
  obtain ⟨c00, c01, c02, c03, c04⟩ := box_at (Fr.refl [] (w.alloc (.cells #[.slice ra x.regs.length rc, vi x.base, vi x.cfa, .int .u64 (x.at_ : Int), .slice ma x.mem.length mc] 52)))
  have H7 := Lib.hid h7
  clear h7
  have H9 : Hid ((decide (x.regs.length ≤ 2147483647) && decide (x.mem.length ≤ 2147483647)) = false) := h9
  clear h9
  clear hl hx
  go_enter Try.func8, Try.ntmps8
  go_wp2_with (go_at_call 24; go_must (refine (zzFits7_any w _ l _ Hl.out HA.out).mono ?_); rw [H7.out]; rintro e w1 ⟨rfl, hf1⟩; have F1 : Hid (Fr [] (w.alloc (.cells #[.slice ra x.regs.length rc, vi x.base, vi x.cfa, .int .u64 (x.at_ : Int), .slice ma x.mem.length mc] 52)) w1) := (Fr.refl [] (w.alloc (.cells #[.slice ra x.regs.length rc, vi x.base, vi x.cfa, .int .u64 (x.at_ : Int), .slice ma x.mem.length mc] 52))).then hf1; clear hf1; obtain ⟨c10, c11, c12, c13, c14⟩ := box_at F1.out; )
  go_wp2_with (go_at_call 25; go_must (refine (zzFits9_any _ _ _ _ _ _ _ _ _ _).mono ?_); rw [H9.out]; rintro e w2 ⟨rfl, hf2⟩; have F2 : Hid (Fr [] (w.alloc (.cells #[.slice ra x.regs.length rc, vi x.base, vi x.cfa, .int .u64 (x.at_ : Int), .slice ma x.mem.length mc] 52)) w2) := F1.out.then hf2; clear hf2; obtain ⟨c20, c21, c22, c23, c24⟩ := box_at F2.out; )
  go_wp2_with fail
  go_ret
  exact ⟨rfl, HA.out.then F2.out⟩

set_option maxRecDepth 100000 in
set_option maxHeartbeats 8000000 in
theorem FnN_C1 (v rv mv : Value) (t : Int) (l : List LCall) (x : LWorld) (w : World) (hl : RSl 4 (RCall w) w v l) (hx : RWorld w rv mv x) (h7 : fits3 l = true)(h9 : fits9 x = true) (ht : t < 0) :
    Calls Try.prog 8 #[v, vi t, worldV rv mv x] w fun e w' => e = .returned (.bool true) ∧ Fr [] w w' := by
  obtain ⟨la, lc, rfl, hl1, hl2⟩ := hl.shape
  obtain ⟨ra, rc, hrv, hrm⟩ := sl_len hx.rg
  obtain ⟨ma, mc, hmv, hmm⟩ := sl_len hx.mm
  simp only [List.length_map] at hrv hmv hrm hmm
  subst hrv hmv
  have Hl := Lib.hid hl
  have Hx := Lib.hid hx
  have HA : Hid (Fr [] w (w.alloc (.cells #[.slice ra x.regs.length rc, vi x.base, vi x.cfa, .int .u64 (x.at_ : Int), .slice ma x.mem.length mc] 52))) := (Fr.refl _ _).alloc _
  obtain ⟨c00, c01, c02, c03, c04⟩ := box_at (Fr.refl [] (w.alloc (.cells #[.slice ra x.regs.length rc, vi x.base, vi x.cfa, .int .u64 (x.at_ : Int), .slice ma x.mem.length mc] 52)))
  have H7 := Lib.hid h7
  clear h7
  have H9 : Hid ((decide (x.regs.length ≤ 2147483647) && decide (x.mem.length ≤ 2147483647)) = true) := h9
  clear h9
  clear hl hx
  go_enter Try.func8, Try.ntmps8
  go_wp2_with (go_at_call 24; go_must (refine (zzFits7_any w _ l _ Hl.out HA.out).mono ?_); rw [H7.out]; rintro e w1 ⟨rfl, hf1⟩; have F1 : Hid (Fr [] (w.alloc (.cells #[.slice ra x.regs.length rc, vi x.base, vi x.cfa, .int .u64 (x.at_ : Int), .slice ma x.mem.length mc] 52)) w1) := (Fr.refl [] (w.alloc (.cells #[.slice ra x.regs.length rc, vi x.base, vi x.cfa, .int .u64 (x.at_ : Int), .slice ma x.mem.length mc] 52))).then hf1; clear hf1; obtain ⟨c10, c11, c12, c13, c14⟩ := box_at F1.out; )
  go_wp2_with (go_at_call 25; go_must (refine (zzFits9_any _ _ _ _ _ _ _ _ _ _).mono ?_); rw [H9.out]; rintro e w2 ⟨rfl, hf2⟩; have F2 : Hid (Fr [] (w.alloc (.cells #[.slice ra x.regs.length rc, vi x.base, vi x.cfa, .int .u64 (x.at_ : Int), .slice ma x.mem.length mc] 52)) w2) := F1.out.then hf2; clear hf2; obtain ⟨c20, c21, c22, c23, c24⟩ := box_at F2.out; )
  go_wp2_with (go_at_call 11; go_must (refine (works_any _).mono ?_); rintro e w3 ⟨rfl, hf3⟩; have F3 : Hid (Fr [] (w.alloc (.cells #[.slice ra x.regs.length rc, vi x.base, vi x.cfa, .int .u64 (x.at_ : Int), .slice ma x.mem.length mc] 52)) w3) := F2.out.then hf3; clear hf3; )
  go_wp2_with fail
  go_ret
  exact ⟨rfl, HA.out.then F3.out⟩

set_option maxRecDepth 100000 in
set_option maxHeartbeats 8000000 in
theorem FnN_C2 (v rv mv : Value) (t : Int) (l : List LCall) (x : LWorld) (w : World) (hl : RSl 4 (RCall w) w v l) (hx : RWorld w rv mv x) (h7 : fits3 l = true)(h9 : fits9 x = true) (ht : ¬ t < 0) (hn : (l.length : Int) < t) :
    Calls Try.prog 8 #[v, vi t, worldV rv mv x] w fun e w' => e = .returned (.bool true) ∧ Fr [] w w' := by
  obtain ⟨la, lc, rfl, hl1, hl2⟩ := hl.shape
  obtain ⟨ra, rc, hrv, hrm⟩ := sl_len hx.rg
  obtain ⟨ma, mc, hmv, hmm⟩ := sl_len hx.mm
  simp only [List.length_map] at hrv hmv hrm hmm
  subst hrv hmv
  have Hl := Lib.hid hl
  have Hx := Lib.hid hx
  have HA : Hid (Fr [] w (w.alloc (.cells #[.slice ra x.regs.length rc, vi x.base, vi x.cfa, .int .u64 (x.at_ : Int), .slice ma x.mem.length mc] 52))) := (Fr.refl _ _).alloc _
  obtain ⟨c00, c01, c02, c03, c04⟩ := box_at (Fr.refl [] (w.alloc (.cells #[.slice ra x.regs.length rc, vi x.base, vi x.cfa, .int .u64 (x.at_ : Int), .slice ma x.mem.length mc] 52)))
  have H7 := Lib.hid h7
  clear h7
  have H9 : Hid ((decide (x.regs.length ≤ 2147483647) && decide (x.mem.length ≤ 2147483647)) = true) := h9
  clear h9
  have ht0 := decide_eq_false ht
  clear hl hx
  go_enter Try.func8, Try.ntmps8
  go_wp2_with (go_at_call 24; go_must (refine (zzFits7_any w _ l _ Hl.out HA.out).mono ?_); rw [H7.out]; rintro e w1 ⟨rfl, hf1⟩; have F1 : Hid (Fr [] (w.alloc (.cells #[.slice ra x.regs.length rc, vi x.base, vi x.cfa, .int .u64 (x.at_ : Int), .slice ma x.mem.length mc] 52)) w1) := (Fr.refl [] (w.alloc (.cells #[.slice ra x.regs.length rc, vi x.base, vi x.cfa, .int .u64 (x.at_ : Int), .slice ma x.mem.length mc] 52))).then hf1; clear hf1; obtain ⟨c10, c11, c12, c13, c14⟩ := box_at F1.out; )
  go_wp2_with (go_at_call 25; go_must (refine (zzFits9_any _ _ _ _ _ _ _ _ _ _).mono ?_); rw [H9.out]; rintro e w2 ⟨rfl, hf2⟩; have F2 : Hid (Fr [] (w.alloc (.cells #[.slice ra x.regs.length rc, vi x.base, vi x.cfa, .int .u64 (x.at_ : Int), .slice ma x.mem.length mc] 52)) w2) := F1.out.then hf2; clear hf2; obtain ⟨c20, c21, c22, c23, c24⟩ := box_at F2.out; )
  go_wp2_with (go_at_call 11; go_must (refine (works_any _).mono ?_); rintro e w3 ⟨rfl, hf3⟩; have F3 : Hid (Fr [] (w.alloc (.cells #[.slice ra x.regs.length rc, vi x.base, vi x.cfa, .int .u64 (x.at_ : Int), .slice ma x.mem.length mc] 52)) w3) := F2.out.then hf3; clear hf3; )
  go_wp2_with fail
  go_ret
  exact ⟨rfl, HA.out.then F3.out⟩

set_option maxRecDepth 100000 in
set_option maxHeartbeats 8000000 in
theorem FnN_C3 (v rv mv : Value) (t : Int) (l : List LCall) (x : LWorld) (w : World) (hl : RSl 4 (RCall w) w v l) (hx : RWorld w rv mv x) (h7 : fits3 l = true)(h9 : fits9 x = true) (ht : ¬ t < 0) (hn : ¬ (l.length : Int) < t) (hm : 200 < l.length) :
    Calls Try.prog 8 #[v, vi t, worldV rv mv x] w fun e w' => e = .returned (.bool true) ∧ Fr [] w w' := by
  obtain ⟨la, lc, rfl, hl1, hl2⟩ := hl.shape
  obtain ⟨ra, rc, hrv, hrm⟩ := sl_len hx.rg
  obtain ⟨ma, mc, hmv, hmm⟩ := sl_len hx.mm
  simp only [List.length_map] at hrv hmv hrm hmm
  subst hrv hmv
  have Hl := Lib.hid hl
  have Hx := Lib.hid hx
  have HA : Hid (Fr [] w (w.alloc (.cells #[.slice ra x.regs.length rc, vi x.base, vi x.cfa, .int .u64 (x.at_ : Int), .slice ma x.mem.length mc] 52))) := (Fr.refl _ _).alloc _
  obtain ⟨c00, c01, c02, c03, c04⟩ := box_at (Fr.refl [] (w.alloc (.cells #[.slice ra x.regs.length rc, vi x.base, vi x.cfa, .int .u64 (x.at_ : Int), .slice ma x.mem.length mc] 52)))
  have H7 := Lib.hid h7
  clear h7
  have H9 : Hid ((decide (x.regs.length ≤ 2147483647) && decide (x.mem.length ≤ 2147483647)) = true) := h9
  clear h9
  have ht0 := decide_eq_false ht
  have hn0 := decide_eq_false hn
  have hm0 : (200 : Int) < (l.length : Int) := by omega
  clear hl hx
  go_enter Try.func8, Try.ntmps8
  go_wp2_with (go_at_call 24; go_must (refine (zzFits7_any w _ l _ Hl.out HA.out).mono ?_); rw [H7.out]; rintro e w1 ⟨rfl, hf1⟩; have F1 : Hid (Fr [] (w.alloc (.cells #[.slice ra x.regs.length rc, vi x.base, vi x.cfa, .int .u64 (x.at_ : Int), .slice ma x.mem.length mc] 52)) w1) := (Fr.refl [] (w.alloc (.cells #[.slice ra x.regs.length rc, vi x.base, vi x.cfa, .int .u64 (x.at_ : Int), .slice ma x.mem.length mc] 52))).then hf1; clear hf1; obtain ⟨c10, c11, c12, c13, c14⟩ := box_at F1.out; )
  go_wp2_with (go_at_call 25; go_must (refine (zzFits9_any _ _ _ _ _ _ _ _ _ _).mono ?_); rw [H9.out]; rintro e w2 ⟨rfl, hf2⟩; have F2 : Hid (Fr [] (w.alloc (.cells #[.slice ra x.regs.length rc, vi x.base, vi x.cfa, .int .u64 (x.at_ : Int), .slice ma x.mem.length mc] 52)) w2) := F1.out.then hf2; clear hf2; obtain ⟨c20, c21, c22, c23, c24⟩ := box_at F2.out; )
  go_wp2_with (go_at_call 11; go_must (refine (works_any _).mono ?_); rintro e w3 ⟨rfl, hf3⟩; have F3 : Hid (Fr [] (w.alloc (.cells #[.slice ra x.regs.length rc, vi x.base, vi x.cfa, .int .u64 (x.at_ : Int), .slice ma x.mem.length mc] 52)) w3) := F2.out.then hf3; clear hf3; )
  go_wp2_with fail
  go_ret
  exact ⟨rfl, HA.out.then F3.out⟩

set_option maxRecDepth 100000 in
set_option maxHeartbeats 8000000 in
theorem FnN_D (v rv mv : Value) (t : Int) (l : List LCall) (x : LWorld) (w : World) (hl : RSl 4 (RCall w) w v l) (hx : RWorld w rv mv x) (h7 : fits3 l = true)(h9 : fits9 x = true) (ht : ¬ t < 0) (hn : ¬ (l.length : Int) < t) (hm : l.length ≤ 200) (hs : smallB x = false) :
    Calls Try.prog 8 #[v, vi t, worldV rv mv x] w fun e w' => e = .returned (.bool true) ∧ Fr [] w w' := by
  obtain ⟨la, lc, rfl, hl1, hl2⟩ := hl.shape
  obtain ⟨ra, rc, hrv, hrm⟩ := sl_len hx.rg
  obtain ⟨ma, mc, hmv, hmm⟩ := sl_len hx.mm
  simp only [List.length_map] at hrv hmv hrm hmm
  subst hrv hmv
  have Hl := Lib.hid hl
  have Hx := Lib.hid hx
  have HA : Hid (Fr [] w (w.alloc (.cells #[.slice ra x.regs.length rc, vi x.base, vi x.cfa, .int .u64 (x.at_ : Int), .slice ma x.mem.length mc] 52))) := (Fr.refl _ _).alloc _
  obtain ⟨c00, c01, c02, c03, c04⟩ := box_at (Fr.refl [] (w.alloc (.cells #[.slice ra x.regs.length rc, vi x.base, vi x.cfa, .int .u64 (x.at_ : Int), .slice ma x.mem.length mc] 52)))
  have H7 := Lib.hid h7
  clear h7
  have H9 : Hid ((decide (x.regs.length ≤ 2147483647) && decide (x.mem.length ≤ 2147483647)) = true) := h9
  clear h9
  have ht0 := decide_eq_false ht
  have hn0 := decide_eq_false hn
  have hm0 : ¬ (200 : Int) < (l.length : Int) := by omega
  have hm1 : decide ((200 : Int) < (l.length : Int)) = false := decide_eq_false hm0
  have HS : Hid ((decide (x.regs.length ≤ 100) && decide (x.mem.length ≤ 10000) && decide (x.at_ + x.mem.length < 18446744073709551616)) = false) := hs
  clear hs
  clear hl hx
  go_enter Try.func8, Try.ntmps8
  go_wp2_with (go_at_call 24; go_must (refine (zzFits7_any w _ l _ Hl.out HA.out).mono ?_); rw [H7.out]; rintro e w1 ⟨rfl, hf1⟩; have F1 : Hid (Fr [] (w.alloc (.cells #[.slice ra x.regs.length rc, vi x.base, vi x.cfa, .int .u64 (x.at_ : Int), .slice ma x.mem.length mc] 52)) w1) := (Fr.refl [] (w.alloc (.cells #[.slice ra x.regs.length rc, vi x.base, vi x.cfa, .int .u64 (x.at_ : Int), .slice ma x.mem.length mc] 52))).then hf1; clear hf1; obtain ⟨c10, c11, c12, c13, c14⟩ := box_at F1.out; )
  go_wp2_with (go_at_call 25; go_must (refine (zzFits9_any _ _ _ _ _ _ _ _ _ _).mono ?_); rw [H9.out]; rintro e w2 ⟨rfl, hf2⟩; have F2 : Hid (Fr [] (w.alloc (.cells #[.slice ra x.regs.length rc, vi x.base, vi x.cfa, .int .u64 (x.at_ : Int), .slice ma x.mem.length mc] 52)) w2) := F1.out.then hf2; clear hf2; obtain ⟨c20, c21, c22, c23, c24⟩ := box_at F2.out; )
  go_wp2_with (go_at_call 26; go_must (refine (small_any _ _ _ _ _ _ _ _ _ _ Hx.out.b3).mono ?_); rw [HS.out]; rintro e w3 ⟨rfl, hf3⟩; have F3 : Hid (Fr [] (w.alloc (.cells #[.slice ra x.regs.length rc, vi x.base, vi x.cfa, .int .u64 (x.at_ : Int), .slice ma x.mem.length mc] 52)) w3) := F2.out.then hf3; clear hf3; obtain ⟨c30, c31, c32, c33, c34⟩ := box_at F3.out; )
  go_wp2_with (go_at_call 11; go_must (refine (works_any _).mono ?_); rintro e w4 ⟨rfl, hf4⟩; have F4 : Hid (Fr [] (w.alloc (.cells #[.slice ra x.regs.length rc, vi x.base, vi x.cfa, .int .u64 (x.at_ : Int), .slice ma x.mem.length mc] 52)) w4) := F3.out.then hf4; clear hf4; )
  go_wp2_with fail
  go_ret
  exact ⟨rfl, HA.out.then F4.out⟩

set_option maxRecDepth 100000 in
set_option maxHeartbeats 8000000 in
theorem FnN_E (v rv mv : Value) (t : Int) (l : List LCall) (x : LWorld) (w : World) (hl : RSl 4 (RCall w) w v l) (hx : RWorld w rv mv x) (h7 : fits3 l = true)(h9 : fits9 x = true) (ht : ¬ t < 0) (hn : ¬ (l.length : Int) < t) (hm : l.length ≤ 200) (hs : smallB x = true) (he : exprOk l = false) :
    Calls Try.prog 8 #[v, vi t, worldV rv mv x] w fun e w' => e = .returned (.bool true) ∧ Fr [] w w' := by
  obtain ⟨la, lc, rfl, hl1, hl2⟩ := hl.shape
  obtain ⟨ra, rc, hrv, hrm⟩ := sl_len hx.rg
  obtain ⟨ma, mc, hmv, hmm⟩ := sl_len hx.mm
  simp only [List.length_map] at hrv hmv hrm hmm
  subst hrv hmv
  have Hl := Lib.hid hl
  have Hx := Lib.hid hx
  have HA : Hid (Fr [] w (w.alloc (.cells #[.slice ra x.regs.length rc, vi x.base, vi x.cfa, .int .u64 (x.at_ : Int), .slice ma x.mem.length mc] 52))) := (Fr.refl _ _).alloc _
  obtain ⟨c00, c01, c02, c03, c04⟩ := box_at (Fr.refl [] (w.alloc (.cells #[.slice ra x.regs.length rc, vi x.base, vi x.cfa, .int .u64 (x.at_ : Int), .slice ma x.mem.length mc] 52)))
  have H7 := Lib.hid h7
  clear h7
  have H9 : Hid ((decide (x.regs.length ≤ 2147483647) && decide (x.mem.length ≤ 2147483647)) = true) := h9
  clear h9
  have ht0 := decide_eq_false ht
  have hn0 := decide_eq_false hn
  have hm0 : ¬ (200 : Int) < (l.length : Int) := by omega
  have hm1 : decide ((200 : Int) < (l.length : Int)) = false := decide_eq_false hm0
  have HS : Hid ((decide (x.regs.length ≤ 100) && decide (x.mem.length ≤ 10000) && decide (x.at_ + x.mem.length < 18446744073709551616)) = true) := hs
  clear hs
  have HE := Lib.hid he
  clear he
  clear hl hx
  go_enter Try.func8, Try.ntmps8
  go_wp2_with (go_at_call 24; go_must (refine (zzFits7_any w _ l _ Hl.out HA.out).mono ?_); rw [H7.out]; rintro e w1 ⟨rfl, hf1⟩; have F1 : Hid (Fr [] (w.alloc (.cells #[.slice ra x.regs.length rc, vi x.base, vi x.cfa, .int .u64 (x.at_ : Int), .slice ma x.mem.length mc] 52)) w1) := (Fr.refl [] (w.alloc (.cells #[.slice ra x.regs.length rc, vi x.base, vi x.cfa, .int .u64 (x.at_ : Int), .slice ma x.mem.length mc] 52))).then hf1; clear hf1; obtain ⟨c10, c11, c12, c13, c14⟩ := box_at F1.out; )
  go_wp2_with (go_at_call 25; go_must (refine (zzFits9_any _ _ _ _ _ _ _ _ _ _).mono ?_); rw [H9.out]; rintro e w2 ⟨rfl, hf2⟩; have F2 : Hid (Fr [] (w.alloc (.cells #[.slice ra x.regs.length rc, vi x.base, vi x.cfa, .int .u64 (x.at_ : Int), .slice ma x.mem.length mc] 52)) w2) := F1.out.then hf2; clear hf2; obtain ⟨c20, c21, c22, c23, c24⟩ := box_at F2.out; )
  go_wp2_with (go_at_call 26; go_must (refine (small_any _ _ _ _ _ _ _ _ _ _ Hx.out.b3).mono ?_); rw [HS.out]; rintro e w3 ⟨rfl, hf3⟩; have F3 : Hid (Fr [] (w.alloc (.cells #[.slice ra x.regs.length rc, vi x.base, vi x.cfa, .int .u64 (x.at_ : Int), .slice ma x.mem.length mc] 52)) w3) := F2.out.then hf3; clear hf3; obtain ⟨c30, c31, c32, c33, c34⟩ := box_at F3.out; )
  go_wp2_with (go_at_call 27; go_must (refine (Expression_any w _ l _ Hl.out (HA.out.then F3.out) (by omega)).mono ?_); rintro e w4 hx4; obtain ⟨v4, rfl, hf4⟩ := ExprPost.bad hx4 HE.out; clear hx4; have F4 : Hid (Fr [] (w.alloc (.cells #[.slice ra x.regs.length rc, vi x.base, vi x.cfa, .int .u64 (x.at_ : Int), .slice ma x.mem.length mc] 52)) w4) := F3.out.then hf4; clear hf4; obtain ⟨c40, c41, c42, c43, c44⟩ := box_at F4.out; )
  go_wp2_with (go_at_call 11; go_must (refine (works_any _).mono ?_); rintro e w5 ⟨rfl, hf5⟩; have F5 : Hid (Fr [] (w.alloc (.cells #[.slice ra x.regs.length rc, vi x.base, vi x.cfa, .int .u64 (x.at_ : Int), .slice ma x.mem.length mc] 52)) w5) := F4.out.then hf5; clear hf5; )
  go_wp2_with fail
  go_ret
  exact ⟨rfl, HA.out.then F5.out⟩
end Go.Proofs.Ytahohmdfllgedaa

namespace Go.Proofs.Ytahohmdfllgedaa
open Go.RowKit

abbrev ncell (c : LCall) (v : Value) : List Value := [vi c.op, vi c.a, vi c.b, v]
def ncells (qs : List (LCall × Value)) : List Value := qs.flatMap fun q => ncell q.1 q.2
theorem ncells_snoc (qs : List (LCall × Value)) (c : LCall) (v : Value) : ncells (qs ++ [(c, v)]) = ncells qs ++ ncell c v := by simp [ncells]
theorem ncells_get (qs : List (LCall × Value)) : ∀ (i j : Nat) (h : i < qs.length), j < 4 → (ncells qs)[i * 4 + j]? = (ncell qs[i].1 qs[i].2)[j]? := by
  induction qs with
  | nil => intro i j h; simp at h
  | cons q qs ih =>
    intro i j h hj
    have e : ncells (q :: qs) = ncell q.1 q.2 ++ ncells qs := by simp [ncells]
    rw [e]
    cases i with
    | zero => rw [Nat.zero_mul, Nat.zero_add, List.getElem?_append_left (by simpa using hj)]; rfl
    | succ i =>
      rw [List.getElem?_append_right (by simp; omega)]
      have := ih i j (by simpa using h) hj
      have e2 : (i + 1) * 4 + j - (ncell q.1 q.2).length = i * 4 + j := by simp; omega
      rw [e2, this]; rfl
/-- An operation whose bytes lie in the first world. -/
def OkQ (w : World) (q : LCall × Value) : Prop := Sl w q.2 (vbs q.1.data) ∧ i64 q.1.op ∧ i64 q.1.a ∧ i64 q.1.b
theorem OkQ.nop (w : World) : OkQ w (nopC, .slice none 0 0) := ⟨.inl ⟨rfl, rfl⟩, by unfold i64 nopC; decide, by unfold i64 nopC; decide, by unfold i64 nopC; decide⟩
theorem sliceOn : SliceT Try.prog 49 48 (.agg #[.int .i64 0, .int .i64 0, .int .i64 0, .slice none 0 0]) 4 48 := ⟨Try.underlying49, by kernel_rfl, rfl, by decide⟩
/-- The new row, as far as it is built. -/
structure NpR (w w4 : World) (m : List LCall) (v : Value) (wr : World) : Prop where
  fr : Fr [] w4 wr
  own : ∃ qs, qs.map (·.1) = m ∧ wr.ownsRow w4.heap.size 48 4 v qs.length (ncells qs) ∧ ∀ q ∈ qs, OkQ w q
theorem NpR.rsl {w w4 wr : World} {m : List LCall} {v : Value} (h : NpR w w4 m v wr) (f : Fr [] w wr) : RSl 4 (RCall wr) wr v m := by
  obtain ⟨qs, a, b, c⟩ := h.own
  have hl : qs.length = m.length := by rw [← a]; simp
  rcases b.2 with ⟨hv, h0⟩ | ⟨g, cap, cur, hv, hb, hg, hnc, hcm, hcs, htake⟩
  · exact .inl ⟨hv, List.eq_nil_of_length_eq_zero (by omega)⟩
  · refine .inr ⟨⟨g, 0, none⟩, cap, by rw [hv, hl], by omega, hcm, fun i hi => ?_⟩
    have hi2 : i < qs.length := by omega
    have e1 : qs[i].1 = m[i] := by have := List.getElem_map (fun r : LCall × Value => r.1) (l := qs) (i := i) (h := by simpa using hi2); rw [← this]; simp [a]
    obtain ⟨c1, c2, c3, c4⟩ := c _ (List.getElem_mem hi2)
    refine ⟨ncell qs[i].1 qs[i].2, rfl, ⟨qs[i].2, by rw [e1], ?_, by rw [← e1]; exact c2, by rw [← e1]; exact c3, by rw [← e1]; exact c4⟩, fun j u hu => ?_⟩
    · rw [← e1]; exact c1.fr f (by simp)
    · have hj : j < 4 := by
        rcases Nat.lt_or_ge j 4 with h | h
        · exact h
        · rw [List.getElem?_eq_none (by simpa using h)] at hu; cases hu
      have hx := ncells_get qs i j hi2 hj
      rw [hu] at hx
      exact b.cells (g := g) (by rw [hv]; rfl) (i * 4 + j) u hx
theorem EvalP.shape {w w' : World} {o : Out} {e : Ending} (h : EvalP w o e w') : ∃ v pv g, e = .returned (.tuple #[vi v, pv, vi g]) ∧ Fr [] w w' := by
  obtain ⟨f, h⟩ := h
  cases o with
  | left => exact ⟨_, _, _, h, f⟩
  | bad => exact ⟨_, _, _, h, f⟩
  | fine s => obtain ⟨v, pv, h, -⟩ := h; exact ⟨_, _, _, h, f⟩
theorem nopI_len (t : Nat) (l : List LCall) (k : Nat) (h : k ≤ l.length) : (nopI t l k).length ≤ k + 1 := by
  unfold nopI; split
  · rw [nopL_len t _ (by simp; omega)]; simp; omega
  · simp; omega

noncomputable def nopTail : Code := (Try.f8.body.bind (tailAt 20)).getD .skip
end Go.Proofs.Ytahohmdfllgedaa

namespace Go.Proofs.Ytahohmdfllgedaa
open Go.RowKit

set_option maxRecDepth 100000 in
set_option maxHeartbeats 60000000 in
theorem Nop_T0 (la ra ma : Option Addr) (lc rc mc : Nat) (t : Nat) (l : List LCall) (x : LWorld) (w w4 wc : World) (a2 : Option Addr) (c2 : Nat) (hl : RSl 4 (RCall w) w (.slice la l.length lc) l) (hx : RWorld w (.slice ra x.regs.length rc) (.slice ma x.mem.length mc) x) (htn : t ≤ l.length) (hm : l.length ≤ 200)
    (hb : x.regs.length ≤ 100 ∧ x.mem.length ≤ 10000 ∧ x.at_ + x.mem.length < 18446744073709551616) (he : exprOk l = true) (fc : Fr [] (w.alloc (.cells #[.slice ra x.regs.length rc, vi x.base, vi x.cfa, .int .u64 (x.at_ : Int), .slice ma x.mem.length mc] 52)) wc) (hnp : NpR w w4 (nopL t l) (.slice a2 (l.length + 1) c2) wc) (he2 : exprOk (nopL t l) = false)
    (s3 s4 s6 s7 s8 s10 s11 s12 s13 s14 s15 s16 s17 s18 s19 s20 s21 s22 s23 s24 s25 s26 s27 s28 s29 s30 s31 s32 s33 s34 s35 s36 s37 s38 s39 s40 s41 s42 s43 s44 s45 s46 s47 s48 s49 s50 s51 s52 s53 s54 s55 s56 s57 s58 s59 s60 s61 s62 s63 s64 s65 s66 s67 s68 s69 s70 s71 s72 s73 s74 s75 s76 s77 s78 s79 s80 s81 s82 s83 s84 s85 s86 s87 s88 s89 s90 s91 s92 s93 s94 s95 s96 s97 s98 s99 s100 s101 s102 s103 s104 s105 s106 s107 s108 s109 s110 s111 s112 s113 s114 s115 s116 s117 s118 s119 s120 s121 s122 s123 s124 s125 s126 s127 s128 s129 s130 s131 s132 s133 s134 s135 s136 s137 s138 s139 s140 s141 s142 s143 s144 s145 s146 s147 s148 s149 s150 s151 s152 s153 s154 s155 s156 s157 s158 s159 s160 s161 s162 s163 s164 s165 s166 s167 s168 s169 s170 s171 s172 s173 s174 s175 s176 s177 s178 s179 s180 s181 s182 s183 s184 s185 s186 s187 s188 s189 s190 s191 s192 s193 s194 s195 s196 s197 s198 s199 s200 s201 s202 s203 s204 s205 s206 s207 s208 s209 s210 s211 s212 s213 s214 s215 s216 s217 s218 s219 s220 s221 s222 s223 s224 s225 s226 s227 s228 s229 s230 s231 s232 s233 s234 s235 s236 s237 s238 s239 s240 s241 s242 : Value) :
    Code.wp Try.prog nopTail (bodyPost Try.prog Try.f8 (fun e w' => e = .returned (.bool true) ∧ Fr [] w w')) ⟨(.slice la l.length lc :: vi ((t : Nat) : Int) :: worldV (.slice ra x.regs.length rc) (.slice ma x.mem.length mc) x :: s3 :: s4 :: .pointer (some ⟨w.heap.size, 0, none⟩) :: s6 :: s7 :: s8 :: .slice a2 (l.length + 1) c2 :: s10 :: s11 :: s12 :: s13 :: s14 :: s15 :: s16 :: s17 :: s18 :: s19 :: s20 :: s21 :: s22 :: s23 :: s24 :: s25 :: s26 :: s27 :: s28 :: s29 :: s30 :: s31 :: s32 :: s33 :: s34 :: s35 :: s36 :: s37 :: s38 :: s39 :: s40 :: s41 :: s42 :: s43 :: s44 :: s45 :: s46 :: s47 :: s48 :: s49 :: s50 :: s51 :: s52 :: s53 :: s54 :: s55 :: s56 :: s57 :: s58 :: s59 :: s60 :: s61 :: s62 :: s63 :: s64 :: s65 :: s66 :: s67 :: s68 :: s69 :: s70 :: s71 :: s72 :: s73 :: s74 :: s75 :: s76 :: s77 :: s78 :: s79 :: s80 :: s81 :: s82 :: s83 :: s84 :: s85 :: s86 :: s87 :: s88 :: s89 :: s90 :: s91 :: s92 :: s93 :: s94 :: s95 :: s96 :: s97 :: s98 :: s99 :: s100 :: s101 :: s102 :: s103 :: s104 :: s105 :: s106 :: s107 :: s108 :: s109 :: s110 :: s111 :: s112 :: s113 :: s114 :: s115 :: s116 :: s117 :: s118 :: s119 :: s120 :: s121 :: s122 :: s123 :: s124 :: s125 :: s126 :: s127 :: s128 :: s129 :: s130 :: s131 :: s132 :: s133 :: s134 :: s135 :: s136 :: s137 :: s138 :: s139 :: s140 :: s141 :: s142 :: s143 :: s144 :: s145 :: s146 :: s147 :: s148 :: s149 :: s150 :: s151 :: s152 :: s153 :: s154 :: s155 :: s156 :: s157 :: s158 :: s159 :: s160 :: s161 :: s162 :: s163 :: s164 :: s165 :: s166 :: s167 :: s168 :: s169 :: s170 :: s171 :: s172 :: s173 :: s174 :: s175 :: s176 :: s177 :: s178 :: s179 :: s180 :: s181 :: s182 :: s183 :: s184 :: s185 :: s186 :: s187 :: s188 :: s189 :: s190 :: s191 :: s192 :: s193 :: s194 :: s195 :: s196 :: s197 :: s198 :: s199 :: s200 :: s201 :: s202 :: s203 :: s204 :: s205 :: s206 :: s207 :: s208 :: s209 :: s210 :: s211 :: s212 :: s213 :: s214 :: s215 :: s216 :: s217 :: s218 :: s219 :: s220 :: s221 :: s222 :: s223 :: s224 :: s225 :: s226 :: s227 :: s228 :: s229 :: s230 :: s231 :: s232 :: s233 :: s234 :: s235 :: s236 :: s237 :: s238 :: s239 :: s240 :: s241 :: s242 :: []).toArray, []⟩ wc := by
  have Hl := Lib.hid hl
  have Hx := Lib.hid hx
  have HA : Hid (Fr [] w (w.alloc (.cells #[.slice ra x.regs.length rc, vi x.base, vi x.cfa, .int .u64 (x.at_ : Int), .slice ma x.mem.length mc] 52))) := (Fr.refl _ _).alloc _
  have HB := Lib.hid hb
  have HI := Lib.hid (rcall_i64 hl)
  have HJ := Lib.hid (exprOk_jumps he)
  have HE := Lib.hid he
  have FC := Lib.hid fc
  have HNP := Lib.hid hnp
  obtain ⟨cc0, cc1, cc2, cc3, cc4⟩ := box_at FC.out
  have HM : Hid (RSl 4 (RCall wc) wc (.slice a2 (l.length + 1) c2) (nopL t l)) := HNP.out.rsl (HA.out.then FC.out)
  have HXM : Hid (RWorld wc _ _ x) := Hx.out.fr (HA.out.then FC.out)
  have HML : Hid ((nopL t l).length = l.length + 1) := nopL_len t l htn
  have HL : Hid ((exprL l).length ≤ 100000) := by have := exprL_le he (rcall_i64 hl) hm; show _ ≤ _; omega
  have HK := Lib.hid (exprOk_known he)
  have HE2 := Lib.hid he2
  clear he2
  clear hl hx hb he fc hnp
  conv => arg 2; whnf
  go_upto_region 21 with (go_at_call 27; go_must (refine (Expression_any w _ l _ Hl.out (HA.out.then FC.out) (by omega)).mono ?_); rintro e w5 hx5; obtain ⟨a5, k5, rfl, ho5, hf5⟩ := ExprPost.ok hx5 HE.out; have Ho5 := Lib.hid ho5; clear ho5 hx5; have FM5 : Hid (Fr [] wc w5) := hf5; have F5 : Hid (Fr [] (w.alloc (.cells #[.slice ra x.regs.length rc, vi x.base, vi x.cfa, .int .u64 (x.at_ : Int), .slice ma x.mem.length mc] 52)) w5) := FC.out.then hf5; clear hf5; obtain ⟨c50, c51, c52, c53, c54⟩ := box_at F5.out; )
  go_wp2_with (go_at_call 27; go_must (refine (Expression_any wc _ (nopL t l) _ HM.out FM5.out (by have := HML.out; omega)).mono ?_); rintro e w6 hx6; obtain ⟨v6, rfl, hf6⟩ := ExprPost.bad hx6 HE2.out; clear hx6; have FM6 : Hid (Fr [] wc w6) := FM5.out.then hf6; have FA6 : Hid (Fr [] w5 w6) := hf6; have F6 : Hid (Fr [] (w.alloc (.cells #[.slice ra x.regs.length rc, vi x.base, vi x.cfa, .int .u64 (x.at_ : Int), .slice ma x.mem.length mc] 52)) w6) := F5.out.then hf6; clear hf6; obtain ⟨c60, c61, c62, c63, c64⟩ := box_at F6.out; )
  go_wp2_with (go_at_call 11; go_must (refine (works_any _).mono ?_); rintro e w7 ⟨rfl, hf7⟩; have F7 : Hid (Fr [] (w.alloc (.cells #[.slice ra x.regs.length rc, vi x.base, vi x.cfa, .int .u64 (x.at_ : Int), .slice ma x.mem.length mc] 52)) w7) := F6.out.then hf7; clear hf7; )
  go_wp2_with fail
  go_ret
  exact ⟨rfl, HA.out.then F7.out⟩
end Go.Proofs.Ytahohmdfllgedaa

namespace Go.Proofs.Ytahohmdfllgedaa
open Go.RowKit

set_option maxRecDepth 100000 in
set_option maxHeartbeats 60000000 in
theorem Nop_T1 (la ra ma : Option Addr) (lc rc mc : Nat) (t : Nat) (l : List LCall) (x : LWorld) (w w4 wc : World) (a2 : Option Addr) (c2 : Nat) (hl : RSl 4 (RCall w) w (.slice la l.length lc) l) (hx : RWorld w (.slice ra x.regs.length rc) (.slice ma x.mem.length mc) x) (htn : t ≤ l.length) (hm : l.length ≤ 200)
    (hb : x.regs.length ≤ 100 ∧ x.mem.length ≤ 10000 ∧ x.at_ + x.mem.length < 18446744073709551616) (he : exprOk l = true) (fc : Fr [] (w.alloc (.cells #[.slice ra x.regs.length rc, vi x.base, vi x.cfa, .int .u64 (x.at_ : Int), .slice ma x.mem.length mc] 52)) wc) (hnp : NpR w w4 (nopL t l) (.slice a2 (l.length + 1) c2) wc) (he2 : exprOk (nopL t l) = true) (ho1 : evalS x l (exprL l).length = .left)
    (s3 s4 s6 s7 s8 s10 s11 s12 s13 s14 s15 s16 s17 s18 s19 s20 s21 s22 s23 s24 s25 s26 s27 s28 s29 s30 s31 s32 s33 s34 s35 s36 s37 s38 s39 s40 s41 s42 s43 s44 s45 s46 s47 s48 s49 s50 s51 s52 s53 s54 s55 s56 s57 s58 s59 s60 s61 s62 s63 s64 s65 s66 s67 s68 s69 s70 s71 s72 s73 s74 s75 s76 s77 s78 s79 s80 s81 s82 s83 s84 s85 s86 s87 s88 s89 s90 s91 s92 s93 s94 s95 s96 s97 s98 s99 s100 s101 s102 s103 s104 s105 s106 s107 s108 s109 s110 s111 s112 s113 s114 s115 s116 s117 s118 s119 s120 s121 s122 s123 s124 s125 s126 s127 s128 s129 s130 s131 s132 s133 s134 s135 s136 s137 s138 s139 s140 s141 s142 s143 s144 s145 s146 s147 s148 s149 s150 s151 s152 s153 s154 s155 s156 s157 s158 s159 s160 s161 s162 s163 s164 s165 s166 s167 s168 s169 s170 s171 s172 s173 s174 s175 s176 s177 s178 s179 s180 s181 s182 s183 s184 s185 s186 s187 s188 s189 s190 s191 s192 s193 s194 s195 s196 s197 s198 s199 s200 s201 s202 s203 s204 s205 s206 s207 s208 s209 s210 s211 s212 s213 s214 s215 s216 s217 s218 s219 s220 s221 s222 s223 s224 s225 s226 s227 s228 s229 s230 s231 s232 s233 s234 s235 s236 s237 s238 s239 s240 s241 s242 : Value) :
    Code.wp Try.prog nopTail (bodyPost Try.prog Try.f8 (fun e w' => e = .returned (.bool true) ∧ Fr [] w w')) ⟨(.slice la l.length lc :: vi ((t : Nat) : Int) :: worldV (.slice ra x.regs.length rc) (.slice ma x.mem.length mc) x :: s3 :: s4 :: .pointer (some ⟨w.heap.size, 0, none⟩) :: s6 :: s7 :: s8 :: .slice a2 (l.length + 1) c2 :: s10 :: s11 :: s12 :: s13 :: s14 :: s15 :: s16 :: s17 :: s18 :: s19 :: s20 :: s21 :: s22 :: s23 :: s24 :: s25 :: s26 :: s27 :: s28 :: s29 :: s30 :: s31 :: s32 :: s33 :: s34 :: s35 :: s36 :: s37 :: s38 :: s39 :: s40 :: s41 :: s42 :: s43 :: s44 :: s45 :: s46 :: s47 :: s48 :: s49 :: s50 :: s51 :: s52 :: s53 :: s54 :: s55 :: s56 :: s57 :: s58 :: s59 :: s60 :: s61 :: s62 :: s63 :: s64 :: s65 :: s66 :: s67 :: s68 :: s69 :: s70 :: s71 :: s72 :: s73 :: s74 :: s75 :: s76 :: s77 :: s78 :: s79 :: s80 :: s81 :: s82 :: s83 :: s84 :: s85 :: s86 :: s87 :: s88 :: s89 :: s90 :: s91 :: s92 :: s93 :: s94 :: s95 :: s96 :: s97 :: s98 :: s99 :: s100 :: s101 :: s102 :: s103 :: s104 :: s105 :: s106 :: s107 :: s108 :: s109 :: s110 :: s111 :: s112 :: s113 :: s114 :: s115 :: s116 :: s117 :: s118 :: s119 :: s120 :: s121 :: s122 :: s123 :: s124 :: s125 :: s126 :: s127 :: s128 :: s129 :: s130 :: s131 :: s132 :: s133 :: s134 :: s135 :: s136 :: s137 :: s138 :: s139 :: s140 :: s141 :: s142 :: s143 :: s144 :: s145 :: s146 :: s147 :: s148 :: s149 :: s150 :: s151 :: s152 :: s153 :: s154 :: s155 :: s156 :: s157 :: s158 :: s159 :: s160 :: s161 :: s162 :: s163 :: s164 :: s165 :: s166 :: s167 :: s168 :: s169 :: s170 :: s171 :: s172 :: s173 :: s174 :: s175 :: s176 :: s177 :: s178 :: s179 :: s180 :: s181 :: s182 :: s183 :: s184 :: s185 :: s186 :: s187 :: s188 :: s189 :: s190 :: s191 :: s192 :: s193 :: s194 :: s195 :: s196 :: s197 :: s198 :: s199 :: s200 :: s201 :: s202 :: s203 :: s204 :: s205 :: s206 :: s207 :: s208 :: s209 :: s210 :: s211 :: s212 :: s213 :: s214 :: s215 :: s216 :: s217 :: s218 :: s219 :: s220 :: s221 :: s222 :: s223 :: s224 :: s225 :: s226 :: s227 :: s228 :: s229 :: s230 :: s231 :: s232 :: s233 :: s234 :: s235 :: s236 :: s237 :: s238 :: s239 :: s240 :: s241 :: s242 :: []).toArray, []⟩ wc := by
  have Hl := Lib.hid hl
  have Hx := Lib.hid hx
  have HA : Hid (Fr [] w (w.alloc (.cells #[.slice ra x.regs.length rc, vi x.base, vi x.cfa, .int .u64 (x.at_ : Int), .slice ma x.mem.length mc] 52))) := (Fr.refl _ _).alloc _
  have HB := Lib.hid hb
  have HI := Lib.hid (rcall_i64 hl)
  have HJ := Lib.hid (exprOk_jumps he)
  have HE := Lib.hid he
  have FC := Lib.hid fc
  have HNP := Lib.hid hnp
  obtain ⟨cc0, cc1, cc2, cc3, cc4⟩ := box_at FC.out
  have HM : Hid (RSl 4 (RCall wc) wc (.slice a2 (l.length + 1) c2) (nopL t l)) := HNP.out.rsl (HA.out.then FC.out)
  have HXM : Hid (RWorld wc _ _ x) := Hx.out.fr (HA.out.then FC.out)
  have HML : Hid ((nopL t l).length = l.length + 1) := nopL_len t l htn
  have HL : Hid ((exprL l).length ≤ 100000) := by have := exprL_le he (rcall_i64 hl) hm; show _ ≤ _; omega
  have HK := Lib.hid (exprOk_known he)
  have HI2 := Lib.hid (rcall_i64 HM.out)
  have HK2 := Lib.hid (exprOk_known he2)
  have HJ2 := Lib.hid (exprOk_jumps he2)
  have HL2 : Hid ((exprL (nopL t l)).length ≤ 100000) := by
    show _ ≤ _
    rw [exprL_len]
    have := pl_le (nopL t l) (fun c hc => ⟨known_len (exprOk_known he2 c hc), (rcall_i64 HM.out c hc).2⟩) (nopL t l).length
    have := HML.out
    omega
  have HE2 := Lib.hid he2
  have HO1 := Lib.hid ho1
  clear he2 ho1
  clear hl hx hb he fc hnp
  conv => arg 2; whnf
  go_upto_region 21 with (go_at_call 27; go_must (refine (Expression_any w _ l _ Hl.out (HA.out.then FC.out) (by omega)).mono ?_); rintro e w5 hx5; obtain ⟨a5, k5, rfl, ho5, hf5⟩ := ExprPost.ok hx5 HE.out; have Ho5 := Lib.hid ho5; clear ho5 hx5; have FM5 : Hid (Fr [] wc w5) := hf5; have F5 : Hid (Fr [] (w.alloc (.cells #[.slice ra x.regs.length rc, vi x.base, vi x.cfa, .int .u64 (x.at_ : Int), .slice ma x.mem.length mc] 52)) w5) := FC.out.then hf5; clear hf5; obtain ⟨c50, c51, c52, c53, c54⟩ := box_at F5.out; )
  go_wp2_with (go_at_call 27; go_must (refine (Expression_any wc _ (nopL t l) _ HM.out FM5.out (by have := HML.out; omega)).mono ?_); rintro e w6 hx6; obtain ⟨a6, k6, rfl, ho6, hf6⟩ := ExprPost.ok hx6 HE2.out; have Ho6 := Lib.hid ho6; clear ho6 hx6; have FM6 : Hid (Fr [] wc w6) := FM5.out.then hf6; have FA6 : Hid (Fr [] w5 w6) := hf6; have F6 : Hid (Fr [] (w.alloc (.cells #[.slice ra x.regs.length rc, vi x.base, vi x.cfa, .int .u64 (x.at_ : Int), .slice ma x.mem.length mc] 52)) w6) := F5.out.then hf6; clear hf6; obtain ⟨c60, c61, c62, c63, c64⟩ := box_at F6.out; )
  go_upto_region 25 with (go_at_call 28; go_must (refine (sEvaluate_any w _ _ _ l x (exprL l).length _ Hl.out Hx.out (HA.out.then F6.out) HL.out HK.out HJ.out).mono ?_); rw [HO1.out]; rintro e w7 ⟨hf7, rfl⟩; have FM7 : Hid (Fr [] wc w7) := FM6.out.then hf7; have FA7 : Hid (Fr [] w5 w7) := FA6.out.then hf7; have FB7 : Hid (Fr [] w6 w7) := hf7; have F7 : Hid (Fr [] (w.alloc (.cells #[.slice ra x.regs.length rc, vi x.base, vi x.cfa, .int .u64 (x.at_ : Int), .slice ma x.mem.length mc] 52)) w7) := F6.out.then hf7; clear hf7; obtain ⟨c70, c71, c72, c73, c74⟩ := box_at F7.out; )
  go_wp2_with (go_at_call 28; go_must (refine (sEvaluate_any wc _ _ _ (nopL t l) x (exprL (nopL t l)).length _ HM.out HXM.out FM7.out HL2.out HK2.out HJ2.out).mono ?_); rintro e w8 hx8; obtain ⟨v8, pv8, g8, rfl, hf8⟩ := EvalP.shape hx8; clear hx8; have F8 : Hid (Fr [] (w.alloc (.cells #[.slice ra x.regs.length rc, vi x.base, vi x.cfa, .int .u64 (x.at_ : Int), .slice ma x.mem.length mc] 52)) w8) := F7.out.then hf8; clear hf8; obtain ⟨c80, c81, c82, c83, c84⟩ := box_at F8.out; )
  go_wp2_with (go_at_call 11; go_must (refine (works_any _).mono ?_); rintro e w9 ⟨rfl, hf9⟩; have F9 : Hid (Fr [] (w.alloc (.cells #[.slice ra x.regs.length rc, vi x.base, vi x.cfa, .int .u64 (x.at_ : Int), .slice ma x.mem.length mc] 52)) w9) := F8.out.then hf9; clear hf9; )
  go_wp2_with fail
  go_ret
  exact ⟨rfl, HA.out.then F9.out⟩
end Go.Proofs.Ytahohmdfllgedaa

namespace Go.Proofs.Ytahohmdfllgedaa
open Go.RowKit

set_option maxRecDepth 100000 in
set_option maxHeartbeats 60000000 in
theorem Nop_T2 (la ra ma : Option Addr) (lc rc mc : Nat) (t : Nat) (l : List LCall) (x : LWorld) (w w4 wc : World) (a2 : Option Addr) (c2 : Nat) (hl : RSl 4 (RCall w) w (.slice la l.length lc) l) (hx : RWorld w (.slice ra x.regs.length rc) (.slice ma x.mem.length mc) x) (htn : t ≤ l.length) (hm : l.length ≤ 200)
    (hb : x.regs.length ≤ 100 ∧ x.mem.length ≤ 10000 ∧ x.at_ + x.mem.length < 18446744073709551616) (he : exprOk l = true) (fc : Fr [] (w.alloc (.cells #[.slice ra x.regs.length rc, vi x.base, vi x.cfa, .int .u64 (x.at_ : Int), .slice ma x.mem.length mc] 52)) wc) (hnp : NpR w w4 (nopL t l) (.slice a2 (l.length + 1) c2) wc) (he2 : exprOk (nopL t l) = true) (ho1 : evalS x l (exprL l).length = .bad)
    (s3 s4 s6 s7 s8 s10 s11 s12 s13 s14 s15 s16 s17 s18 s19 s20 s21 s22 s23 s24 s25 s26 s27 s28 s29 s30 s31 s32 s33 s34 s35 s36 s37 s38 s39 s40 s41 s42 s43 s44 s45 s46 s47 s48 s49 s50 s51 s52 s53 s54 s55 s56 s57 s58 s59 s60 s61 s62 s63 s64 s65 s66 s67 s68 s69 s70 s71 s72 s73 s74 s75 s76 s77 s78 s79 s80 s81 s82 s83 s84 s85 s86 s87 s88 s89 s90 s91 s92 s93 s94 s95 s96 s97 s98 s99 s100 s101 s102 s103 s104 s105 s106 s107 s108 s109 s110 s111 s112 s113 s114 s115 s116 s117 s118 s119 s120 s121 s122 s123 s124 s125 s126 s127 s128 s129 s130 s131 s132 s133 s134 s135 s136 s137 s138 s139 s140 s141 s142 s143 s144 s145 s146 s147 s148 s149 s150 s151 s152 s153 s154 s155 s156 s157 s158 s159 s160 s161 s162 s163 s164 s165 s166 s167 s168 s169 s170 s171 s172 s173 s174 s175 s176 s177 s178 s179 s180 s181 s182 s183 s184 s185 s186 s187 s188 s189 s190 s191 s192 s193 s194 s195 s196 s197 s198 s199 s200 s201 s202 s203 s204 s205 s206 s207 s208 s209 s210 s211 s212 s213 s214 s215 s216 s217 s218 s219 s220 s221 s222 s223 s224 s225 s226 s227 s228 s229 s230 s231 s232 s233 s234 s235 s236 s237 s238 s239 s240 s241 s242 : Value) :
    Code.wp Try.prog nopTail (bodyPost Try.prog Try.f8 (fun e w' => e = .returned (.bool true) ∧ Fr [] w w')) ⟨(.slice la l.length lc :: vi ((t : Nat) : Int) :: worldV (.slice ra x.regs.length rc) (.slice ma x.mem.length mc) x :: s3 :: s4 :: .pointer (some ⟨w.heap.size, 0, none⟩) :: s6 :: s7 :: s8 :: .slice a2 (l.length + 1) c2 :: s10 :: s11 :: s12 :: s13 :: s14 :: s15 :: s16 :: s17 :: s18 :: s19 :: s20 :: s21 :: s22 :: s23 :: s24 :: s25 :: s26 :: s27 :: s28 :: s29 :: s30 :: s31 :: s32 :: s33 :: s34 :: s35 :: s36 :: s37 :: s38 :: s39 :: s40 :: s41 :: s42 :: s43 :: s44 :: s45 :: s46 :: s47 :: s48 :: s49 :: s50 :: s51 :: s52 :: s53 :: s54 :: s55 :: s56 :: s57 :: s58 :: s59 :: s60 :: s61 :: s62 :: s63 :: s64 :: s65 :: s66 :: s67 :: s68 :: s69 :: s70 :: s71 :: s72 :: s73 :: s74 :: s75 :: s76 :: s77 :: s78 :: s79 :: s80 :: s81 :: s82 :: s83 :: s84 :: s85 :: s86 :: s87 :: s88 :: s89 :: s90 :: s91 :: s92 :: s93 :: s94 :: s95 :: s96 :: s97 :: s98 :: s99 :: s100 :: s101 :: s102 :: s103 :: s104 :: s105 :: s106 :: s107 :: s108 :: s109 :: s110 :: s111 :: s112 :: s113 :: s114 :: s115 :: s116 :: s117 :: s118 :: s119 :: s120 :: s121 :: s122 :: s123 :: s124 :: s125 :: s126 :: s127 :: s128 :: s129 :: s130 :: s131 :: s132 :: s133 :: s134 :: s135 :: s136 :: s137 :: s138 :: s139 :: s140 :: s141 :: s142 :: s143 :: s144 :: s145 :: s146 :: s147 :: s148 :: s149 :: s150 :: s151 :: s152 :: s153 :: s154 :: s155 :: s156 :: s157 :: s158 :: s159 :: s160 :: s161 :: s162 :: s163 :: s164 :: s165 :: s166 :: s167 :: s168 :: s169 :: s170 :: s171 :: s172 :: s173 :: s174 :: s175 :: s176 :: s177 :: s178 :: s179 :: s180 :: s181 :: s182 :: s183 :: s184 :: s185 :: s186 :: s187 :: s188 :: s189 :: s190 :: s191 :: s192 :: s193 :: s194 :: s195 :: s196 :: s197 :: s198 :: s199 :: s200 :: s201 :: s202 :: s203 :: s204 :: s205 :: s206 :: s207 :: s208 :: s209 :: s210 :: s211 :: s212 :: s213 :: s214 :: s215 :: s216 :: s217 :: s218 :: s219 :: s220 :: s221 :: s222 :: s223 :: s224 :: s225 :: s226 :: s227 :: s228 :: s229 :: s230 :: s231 :: s232 :: s233 :: s234 :: s235 :: s236 :: s237 :: s238 :: s239 :: s240 :: s241 :: s242 :: []).toArray, []⟩ wc := by
  have Hl := Lib.hid hl
  have Hx := Lib.hid hx
  have HA : Hid (Fr [] w (w.alloc (.cells #[.slice ra x.regs.length rc, vi x.base, vi x.cfa, .int .u64 (x.at_ : Int), .slice ma x.mem.length mc] 52))) := (Fr.refl _ _).alloc _
  have HB := Lib.hid hb
  have HI := Lib.hid (rcall_i64 hl)
  have HJ := Lib.hid (exprOk_jumps he)
  have HE := Lib.hid he
  have FC := Lib.hid fc
  have HNP := Lib.hid hnp
  obtain ⟨cc0, cc1, cc2, cc3, cc4⟩ := box_at FC.out
  have HM : Hid (RSl 4 (RCall wc) wc (.slice a2 (l.length + 1) c2) (nopL t l)) := HNP.out.rsl (HA.out.then FC.out)
  have HXM : Hid (RWorld wc _ _ x) := Hx.out.fr (HA.out.then FC.out)
  have HML : Hid ((nopL t l).length = l.length + 1) := nopL_len t l htn
  have HL : Hid ((exprL l).length ≤ 100000) := by have := exprL_le he (rcall_i64 hl) hm; show _ ≤ _; omega
  have HK := Lib.hid (exprOk_known he)
  have HI2 := Lib.hid (rcall_i64 HM.out)
  have HK2 := Lib.hid (exprOk_known he2)
  have HJ2 := Lib.hid (exprOk_jumps he2)
  have HL2 : Hid ((exprL (nopL t l)).length ≤ 100000) := by
    show _ ≤ _
    rw [exprL_len]
    have := pl_le (nopL t l) (fun c hc => ⟨known_len (exprOk_known he2 c hc), (rcall_i64 HM.out c hc).2⟩) (nopL t l).length
    have := HML.out
    omega
  have HE2 := Lib.hid he2
  have HO1 := Lib.hid ho1
  clear he2 ho1
  clear hl hx hb he fc hnp
  conv => arg 2; whnf
  go_upto_region 21 with (go_at_call 27; go_must (refine (Expression_any w _ l _ Hl.out (HA.out.then FC.out) (by omega)).mono ?_); rintro e w5 hx5; obtain ⟨a5, k5, rfl, ho5, hf5⟩ := ExprPost.ok hx5 HE.out; have Ho5 := Lib.hid ho5; clear ho5 hx5; have FM5 : Hid (Fr [] wc w5) := hf5; have F5 : Hid (Fr [] (w.alloc (.cells #[.slice ra x.regs.length rc, vi x.base, vi x.cfa, .int .u64 (x.at_ : Int), .slice ma x.mem.length mc] 52)) w5) := FC.out.then hf5; clear hf5; obtain ⟨c50, c51, c52, c53, c54⟩ := box_at F5.out; )
  go_wp2_with (go_at_call 27; go_must (refine (Expression_any wc _ (nopL t l) _ HM.out FM5.out (by have := HML.out; omega)).mono ?_); rintro e w6 hx6; obtain ⟨a6, k6, rfl, ho6, hf6⟩ := ExprPost.ok hx6 HE2.out; have Ho6 := Lib.hid ho6; clear ho6 hx6; have FM6 : Hid (Fr [] wc w6) := FM5.out.then hf6; have FA6 : Hid (Fr [] w5 w6) := hf6; have F6 : Hid (Fr [] (w.alloc (.cells #[.slice ra x.regs.length rc, vi x.base, vi x.cfa, .int .u64 (x.at_ : Int), .slice ma x.mem.length mc] 52)) w6) := F5.out.then hf6; clear hf6; obtain ⟨c60, c61, c62, c63, c64⟩ := box_at F6.out; )
  go_upto_region 25 with (go_at_call 28; go_must (refine (sEvaluate_any w _ _ _ l x (exprL l).length _ Hl.out Hx.out (HA.out.then F6.out) HL.out HK.out HJ.out).mono ?_); rw [HO1.out]; rintro e w7 ⟨hf7, rfl⟩; have FM7 : Hid (Fr [] wc w7) := FM6.out.then hf7; have FA7 : Hid (Fr [] w5 w7) := FA6.out.then hf7; have FB7 : Hid (Fr [] w6 w7) := hf7; have F7 : Hid (Fr [] (w.alloc (.cells #[.slice ra x.regs.length rc, vi x.base, vi x.cfa, .int .u64 (x.at_ : Int), .slice ma x.mem.length mc] 52)) w7) := F6.out.then hf7; clear hf7; obtain ⟨c70, c71, c72, c73, c74⟩ := box_at F7.out; )
  go_wp2_with (go_at_call 28; go_must (refine (sEvaluate_any wc _ _ _ (nopL t l) x (exprL (nopL t l)).length _ HM.out HXM.out FM7.out HL2.out HK2.out HJ2.out).mono ?_); rintro e w8 hx8; obtain ⟨v8, pv8, g8, rfl, hf8⟩ := EvalP.shape hx8; clear hx8; have F8 : Hid (Fr [] (w.alloc (.cells #[.slice ra x.regs.length rc, vi x.base, vi x.cfa, .int .u64 (x.at_ : Int), .slice ma x.mem.length mc] 52)) w8) := F7.out.then hf8; clear hf8; obtain ⟨c80, c81, c82, c83, c84⟩ := box_at F8.out; )
  go_wp2_with (go_at_call 11; go_must (refine (works_any _).mono ?_); rintro e w9 ⟨rfl, hf9⟩; have F9 : Hid (Fr [] (w.alloc (.cells #[.slice ra x.regs.length rc, vi x.base, vi x.cfa, .int .u64 (x.at_ : Int), .slice ma x.mem.length mc] 52)) w9) := F8.out.then hf9; clear hf9; )
  go_wp2_with fail
  go_ret
  exact ⟨rfl, HA.out.then F9.out⟩
end Go.Proofs.Ytahohmdfllgedaa

namespace Go.Proofs.Ytahohmdfllgedaa
open Go.RowKit

set_option maxRecDepth 100000 in
set_option maxHeartbeats 60000000 in
theorem Nop_T3 (la ra ma : Option Addr) (lc rc mc : Nat) (t : Nat) (l : List LCall) (x : LWorld) (w w4 wc : World) (a2 : Option Addr) (c2 : Nat) (hl : RSl 4 (RCall w) w (.slice la l.length lc) l) (hx : RWorld w (.slice ra x.regs.length rc) (.slice ma x.mem.length mc) x) (htn : t ≤ l.length) (hm : l.length ≤ 200)
    (hb : x.regs.length ≤ 100 ∧ x.mem.length ≤ 10000 ∧ x.at_ + x.mem.length < 18446744073709551616) (he : exprOk l = true) (fc : Fr [] (w.alloc (.cells #[.slice ra x.regs.length rc, vi x.base, vi x.cfa, .int .u64 (x.at_ : Int), .slice ma x.mem.length mc] 52)) wc) (hnp : NpR w w4 (nopL t l) (.slice a2 (l.length + 1) c2) wc) (he2 : exprOk (nopL t l) = true) (s : LSt) (ho1 : evalS x l (exprL l).length = .fine s) (ho2 : evalS x (nopL t l) (exprL (nopL t l)).length = .left)
    (s3 s4 s6 s7 s8 s10 s11 s12 s13 s14 s15 s16 s17 s18 s19 s20 s21 s22 s23 s24 s25 s26 s27 s28 s29 s30 s31 s32 s33 s34 s35 s36 s37 s38 s39 s40 s41 s42 s43 s44 s45 s46 s47 s48 s49 s50 s51 s52 s53 s54 s55 s56 s57 s58 s59 s60 s61 s62 s63 s64 s65 s66 s67 s68 s69 s70 s71 s72 s73 s74 s75 s76 s77 s78 s79 s80 s81 s82 s83 s84 s85 s86 s87 s88 s89 s90 s91 s92 s93 s94 s95 s96 s97 s98 s99 s100 s101 s102 s103 s104 s105 s106 s107 s108 s109 s110 s111 s112 s113 s114 s115 s116 s117 s118 s119 s120 s121 s122 s123 s124 s125 s126 s127 s128 s129 s130 s131 s132 s133 s134 s135 s136 s137 s138 s139 s140 s141 s142 s143 s144 s145 s146 s147 s148 s149 s150 s151 s152 s153 s154 s155 s156 s157 s158 s159 s160 s161 s162 s163 s164 s165 s166 s167 s168 s169 s170 s171 s172 s173 s174 s175 s176 s177 s178 s179 s180 s181 s182 s183 s184 s185 s186 s187 s188 s189 s190 s191 s192 s193 s194 s195 s196 s197 s198 s199 s200 s201 s202 s203 s204 s205 s206 s207 s208 s209 s210 s211 s212 s213 s214 s215 s216 s217 s218 s219 s220 s221 s222 s223 s224 s225 s226 s227 s228 s229 s230 s231 s232 s233 s234 s235 s236 s237 s238 s239 s240 s241 s242 : Value) :
    Code.wp Try.prog nopTail (bodyPost Try.prog Try.f8 (fun e w' => e = .returned (.bool true) ∧ Fr [] w w')) ⟨(.slice la l.length lc :: vi ((t : Nat) : Int) :: worldV (.slice ra x.regs.length rc) (.slice ma x.mem.length mc) x :: s3 :: s4 :: .pointer (some ⟨w.heap.size, 0, none⟩) :: s6 :: s7 :: s8 :: .slice a2 (l.length + 1) c2 :: s10 :: s11 :: s12 :: s13 :: s14 :: s15 :: s16 :: s17 :: s18 :: s19 :: s20 :: s21 :: s22 :: s23 :: s24 :: s25 :: s26 :: s27 :: s28 :: s29 :: s30 :: s31 :: s32 :: s33 :: s34 :: s35 :: s36 :: s37 :: s38 :: s39 :: s40 :: s41 :: s42 :: s43 :: s44 :: s45 :: s46 :: s47 :: s48 :: s49 :: s50 :: s51 :: s52 :: s53 :: s54 :: s55 :: s56 :: s57 :: s58 :: s59 :: s60 :: s61 :: s62 :: s63 :: s64 :: s65 :: s66 :: s67 :: s68 :: s69 :: s70 :: s71 :: s72 :: s73 :: s74 :: s75 :: s76 :: s77 :: s78 :: s79 :: s80 :: s81 :: s82 :: s83 :: s84 :: s85 :: s86 :: s87 :: s88 :: s89 :: s90 :: s91 :: s92 :: s93 :: s94 :: s95 :: s96 :: s97 :: s98 :: s99 :: s100 :: s101 :: s102 :: s103 :: s104 :: s105 :: s106 :: s107 :: s108 :: s109 :: s110 :: s111 :: s112 :: s113 :: s114 :: s115 :: s116 :: s117 :: s118 :: s119 :: s120 :: s121 :: s122 :: s123 :: s124 :: s125 :: s126 :: s127 :: s128 :: s129 :: s130 :: s131 :: s132 :: s133 :: s134 :: s135 :: s136 :: s137 :: s138 :: s139 :: s140 :: s141 :: s142 :: s143 :: s144 :: s145 :: s146 :: s147 :: s148 :: s149 :: s150 :: s151 :: s152 :: s153 :: s154 :: s155 :: s156 :: s157 :: s158 :: s159 :: s160 :: s161 :: s162 :: s163 :: s164 :: s165 :: s166 :: s167 :: s168 :: s169 :: s170 :: s171 :: s172 :: s173 :: s174 :: s175 :: s176 :: s177 :: s178 :: s179 :: s180 :: s181 :: s182 :: s183 :: s184 :: s185 :: s186 :: s187 :: s188 :: s189 :: s190 :: s191 :: s192 :: s193 :: s194 :: s195 :: s196 :: s197 :: s198 :: s199 :: s200 :: s201 :: s202 :: s203 :: s204 :: s205 :: s206 :: s207 :: s208 :: s209 :: s210 :: s211 :: s212 :: s213 :: s214 :: s215 :: s216 :: s217 :: s218 :: s219 :: s220 :: s221 :: s222 :: s223 :: s224 :: s225 :: s226 :: s227 :: s228 :: s229 :: s230 :: s231 :: s232 :: s233 :: s234 :: s235 :: s236 :: s237 :: s238 :: s239 :: s240 :: s241 :: s242 :: []).toArray, []⟩ wc := by
  have Hl := Lib.hid hl
  have Hx := Lib.hid hx
  have HA : Hid (Fr [] w (w.alloc (.cells #[.slice ra x.regs.length rc, vi x.base, vi x.cfa, .int .u64 (x.at_ : Int), .slice ma x.mem.length mc] 52))) := (Fr.refl _ _).alloc _
  have HB := Lib.hid hb
  have HI := Lib.hid (rcall_i64 hl)
  have HJ := Lib.hid (exprOk_jumps he)
  have HE := Lib.hid he
  have FC := Lib.hid fc
  have HNP := Lib.hid hnp
  obtain ⟨cc0, cc1, cc2, cc3, cc4⟩ := box_at FC.out
  have HM : Hid (RSl 4 (RCall wc) wc (.slice a2 (l.length + 1) c2) (nopL t l)) := HNP.out.rsl (HA.out.then FC.out)
  have HXM : Hid (RWorld wc _ _ x) := Hx.out.fr (HA.out.then FC.out)
  have HML : Hid ((nopL t l).length = l.length + 1) := nopL_len t l htn
  have HL : Hid ((exprL l).length ≤ 100000) := by have := exprL_le he (rcall_i64 hl) hm; show _ ≤ _; omega
  have HK := Lib.hid (exprOk_known he)
  have HI2 := Lib.hid (rcall_i64 HM.out)
  have HK2 := Lib.hid (exprOk_known he2)
  have HJ2 := Lib.hid (exprOk_jumps he2)
  have HL2 : Hid ((exprL (nopL t l)).length ≤ 100000) := by
    show _ ≤ _
    rw [exprL_len]
    have := pl_le (nopL t l) (fun c hc => ⟨known_len (exprOk_known he2 c hc), (rcall_i64 HM.out c hc).2⟩) (nopL t l).length
    have := HML.out
    omega
  have HE2 := Lib.hid he2
  have HO1 := Lib.hid ho1
  have HO2 := Lib.hid ho2
  clear he2 ho1 ho2
  clear hl hx hb he fc hnp
  conv => arg 2; whnf
  go_upto_region 21 with (go_at_call 27; go_must (refine (Expression_any w _ l _ Hl.out (HA.out.then FC.out) (by omega)).mono ?_); rintro e w5 hx5; obtain ⟨a5, k5, rfl, ho5, hf5⟩ := ExprPost.ok hx5 HE.out; have Ho5 := Lib.hid ho5; clear ho5 hx5; have FM5 : Hid (Fr [] wc w5) := hf5; have F5 : Hid (Fr [] (w.alloc (.cells #[.slice ra x.regs.length rc, vi x.base, vi x.cfa, .int .u64 (x.at_ : Int), .slice ma x.mem.length mc] 52)) w5) := FC.out.then hf5; clear hf5; obtain ⟨c50, c51, c52, c53, c54⟩ := box_at F5.out; )
  go_wp2_with (go_at_call 27; go_must (refine (Expression_any wc _ (nopL t l) _ HM.out FM5.out (by have := HML.out; omega)).mono ?_); rintro e w6 hx6; obtain ⟨a6, k6, rfl, ho6, hf6⟩ := ExprPost.ok hx6 HE2.out; have Ho6 := Lib.hid ho6; clear ho6 hx6; have FM6 : Hid (Fr [] wc w6) := FM5.out.then hf6; have FA6 : Hid (Fr [] w5 w6) := hf6; have F6 : Hid (Fr [] (w.alloc (.cells #[.slice ra x.regs.length rc, vi x.base, vi x.cfa, .int .u64 (x.at_ : Int), .slice ma x.mem.length mc] 52)) w6) := F5.out.then hf6; clear hf6; obtain ⟨c60, c61, c62, c63, c64⟩ := box_at F6.out; )
  go_upto_region 25 with (go_at_call 28; go_must (refine (sEvaluate_any w _ _ _ l x (exprL l).length _ Hl.out Hx.out (HA.out.then F6.out) HL.out HK.out HJ.out).mono ?_); rw [HO1.out]; rintro e w7 ⟨hf7, v7, pv7, rfl, hp7, hs7⟩; have FM7 : Hid (Fr [] wc w7) := FM6.out.then hf7; have FA7 : Hid (Fr [] w5 w7) := FA6.out.then hf7; have FB7 : Hid (Fr [] w6 w7) := hf7; clear hp7 hs7; have F7 : Hid (Fr [] (w.alloc (.cells #[.slice ra x.regs.length rc, vi x.base, vi x.cfa, .int .u64 (x.at_ : Int), .slice ma x.mem.length mc] 52)) w7) := F6.out.then hf7; clear hf7; obtain ⟨c70, c71, c72, c73, c74⟩ := box_at F7.out; )
  go_wp2_with (go_at_call 28; go_must (refine (sEvaluate_any wc _ _ _ (nopL t l) x (exprL (nopL t l)).length _ HM.out HXM.out FM7.out HL2.out HK2.out HJ2.out).mono ?_); rw [HO2.out]; rintro e w8 ⟨hf8, rfl⟩; have FM8 : Hid (Fr [] wc w8) := FM7.out.then hf8; have FA8 : Hid (Fr [] w5 w8) := FA7.out.then hf8; have FB8 : Hid (Fr [] w6 w8) := FB7.out.then hf8; have F8 : Hid (Fr [] (w.alloc (.cells #[.slice ra x.regs.length rc, vi x.base, vi x.cfa, .int .u64 (x.at_ : Int), .slice ma x.mem.length mc] 52)) w8) := F7.out.then hf8; clear hf8; obtain ⟨c80, c81, c82, c83, c84⟩ := box_at F8.out; )
  go_wp2_with (go_at_call 11; go_must (refine (works_any _).mono ?_); rintro e w9 ⟨rfl, hf9⟩; have F9 : Hid (Fr [] (w.alloc (.cells #[.slice ra x.regs.length rc, vi x.base, vi x.cfa, .int .u64 (x.at_ : Int), .slice ma x.mem.length mc] 52)) w9) := F8.out.then hf9; clear hf9; )
  go_wp2_with fail
  go_ret
  exact ⟨rfl, HA.out.then F9.out⟩
end Go.Proofs.Ytahohmdfllgedaa

namespace Go.Proofs.Ytahohmdfllgedaa
open Go.RowKit

set_option maxRecDepth 100000 in
set_option maxHeartbeats 60000000 in
theorem Nop_T4 (la ra ma : Option Addr) (lc rc mc : Nat) (t : Nat) (l : List LCall) (x : LWorld) (w w4 wc : World) (a2 : Option Addr) (c2 : Nat) (hl : RSl 4 (RCall w) w (.slice la l.length lc) l) (hx : RWorld w (.slice ra x.regs.length rc) (.slice ma x.mem.length mc) x) (htn : t ≤ l.length) (hm : l.length ≤ 200)
    (hb : x.regs.length ≤ 100 ∧ x.mem.length ≤ 10000 ∧ x.at_ + x.mem.length < 18446744073709551616) (he : exprOk l = true) (fc : Fr [] (w.alloc (.cells #[.slice ra x.regs.length rc, vi x.base, vi x.cfa, .int .u64 (x.at_ : Int), .slice ma x.mem.length mc] 52)) wc) (hnp : NpR w w4 (nopL t l) (.slice a2 (l.length + 1) c2) wc) (he2 : exprOk (nopL t l) = true) (s : LSt) (ho1 : evalS x l (exprL l).length = .fine s) (ho2 : evalS x (nopL t l) (exprL (nopL t l)).length = .bad)
    (s3 s4 s6 s7 s8 s10 s11 s12 s13 s14 s15 s16 s17 s18 s19 s20 s21 s22 s23 s24 s25 s26 s27 s28 s29 s30 s31 s32 s33 s34 s35 s36 s37 s38 s39 s40 s41 s42 s43 s44 s45 s46 s47 s48 s49 s50 s51 s52 s53 s54 s55 s56 s57 s58 s59 s60 s61 s62 s63 s64 s65 s66 s67 s68 s69 s70 s71 s72 s73 s74 s75 s76 s77 s78 s79 s80 s81 s82 s83 s84 s85 s86 s87 s88 s89 s90 s91 s92 s93 s94 s95 s96 s97 s98 s99 s100 s101 s102 s103 s104 s105 s106 s107 s108 s109 s110 s111 s112 s113 s114 s115 s116 s117 s118 s119 s120 s121 s122 s123 s124 s125 s126 s127 s128 s129 s130 s131 s132 s133 s134 s135 s136 s137 s138 s139 s140 s141 s142 s143 s144 s145 s146 s147 s148 s149 s150 s151 s152 s153 s154 s155 s156 s157 s158 s159 s160 s161 s162 s163 s164 s165 s166 s167 s168 s169 s170 s171 s172 s173 s174 s175 s176 s177 s178 s179 s180 s181 s182 s183 s184 s185 s186 s187 s188 s189 s190 s191 s192 s193 s194 s195 s196 s197 s198 s199 s200 s201 s202 s203 s204 s205 s206 s207 s208 s209 s210 s211 s212 s213 s214 s215 s216 s217 s218 s219 s220 s221 s222 s223 s224 s225 s226 s227 s228 s229 s230 s231 s232 s233 s234 s235 s236 s237 s238 s239 s240 s241 s242 : Value) :
    Code.wp Try.prog nopTail (bodyPost Try.prog Try.f8 (fun e w' => e = .returned (.bool true) ∧ Fr [] w w')) ⟨(.slice la l.length lc :: vi ((t : Nat) : Int) :: worldV (.slice ra x.regs.length rc) (.slice ma x.mem.length mc) x :: s3 :: s4 :: .pointer (some ⟨w.heap.size, 0, none⟩) :: s6 :: s7 :: s8 :: .slice a2 (l.length + 1) c2 :: s10 :: s11 :: s12 :: s13 :: s14 :: s15 :: s16 :: s17 :: s18 :: s19 :: s20 :: s21 :: s22 :: s23 :: s24 :: s25 :: s26 :: s27 :: s28 :: s29 :: s30 :: s31 :: s32 :: s33 :: s34 :: s35 :: s36 :: s37 :: s38 :: s39 :: s40 :: s41 :: s42 :: s43 :: s44 :: s45 :: s46 :: s47 :: s48 :: s49 :: s50 :: s51 :: s52 :: s53 :: s54 :: s55 :: s56 :: s57 :: s58 :: s59 :: s60 :: s61 :: s62 :: s63 :: s64 :: s65 :: s66 :: s67 :: s68 :: s69 :: s70 :: s71 :: s72 :: s73 :: s74 :: s75 :: s76 :: s77 :: s78 :: s79 :: s80 :: s81 :: s82 :: s83 :: s84 :: s85 :: s86 :: s87 :: s88 :: s89 :: s90 :: s91 :: s92 :: s93 :: s94 :: s95 :: s96 :: s97 :: s98 :: s99 :: s100 :: s101 :: s102 :: s103 :: s104 :: s105 :: s106 :: s107 :: s108 :: s109 :: s110 :: s111 :: s112 :: s113 :: s114 :: s115 :: s116 :: s117 :: s118 :: s119 :: s120 :: s121 :: s122 :: s123 :: s124 :: s125 :: s126 :: s127 :: s128 :: s129 :: s130 :: s131 :: s132 :: s133 :: s134 :: s135 :: s136 :: s137 :: s138 :: s139 :: s140 :: s141 :: s142 :: s143 :: s144 :: s145 :: s146 :: s147 :: s148 :: s149 :: s150 :: s151 :: s152 :: s153 :: s154 :: s155 :: s156 :: s157 :: s158 :: s159 :: s160 :: s161 :: s162 :: s163 :: s164 :: s165 :: s166 :: s167 :: s168 :: s169 :: s170 :: s171 :: s172 :: s173 :: s174 :: s175 :: s176 :: s177 :: s178 :: s179 :: s180 :: s181 :: s182 :: s183 :: s184 :: s185 :: s186 :: s187 :: s188 :: s189 :: s190 :: s191 :: s192 :: s193 :: s194 :: s195 :: s196 :: s197 :: s198 :: s199 :: s200 :: s201 :: s202 :: s203 :: s204 :: s205 :: s206 :: s207 :: s208 :: s209 :: s210 :: s211 :: s212 :: s213 :: s214 :: s215 :: s216 :: s217 :: s218 :: s219 :: s220 :: s221 :: s222 :: s223 :: s224 :: s225 :: s226 :: s227 :: s228 :: s229 :: s230 :: s231 :: s232 :: s233 :: s234 :: s235 :: s236 :: s237 :: s238 :: s239 :: s240 :: s241 :: s242 :: []).toArray, []⟩ wc := by
  have Hl := Lib.hid hl
  have Hx := Lib.hid hx
  have HA : Hid (Fr [] w (w.alloc (.cells #[.slice ra x.regs.length rc, vi x.base, vi x.cfa, .int .u64 (x.at_ : Int), .slice ma x.mem.length mc] 52))) := (Fr.refl _ _).alloc _
  have HB := Lib.hid hb
  have HI := Lib.hid (rcall_i64 hl)
  have HJ := Lib.hid (exprOk_jumps he)
  have HE := Lib.hid he
  have FC := Lib.hid fc
  have HNP := Lib.hid hnp
  obtain ⟨cc0, cc1, cc2, cc3, cc4⟩ := box_at FC.out
  have HM : Hid (RSl 4 (RCall wc) wc (.slice a2 (l.length + 1) c2) (nopL t l)) := HNP.out.rsl (HA.out.then FC.out)
  have HXM : Hid (RWorld wc _ _ x) := Hx.out.fr (HA.out.then FC.out)
  have HML : Hid ((nopL t l).length = l.length + 1) := nopL_len t l htn
  have HL : Hid ((exprL l).length ≤ 100000) := by have := exprL_le he (rcall_i64 hl) hm; show _ ≤ _; omega
  have HK := Lib.hid (exprOk_known he)
  have HI2 := Lib.hid (rcall_i64 HM.out)
  have HK2 := Lib.hid (exprOk_known he2)
  have HJ2 := Lib.hid (exprOk_jumps he2)
  have HL2 : Hid ((exprL (nopL t l)).length ≤ 100000) := by
    show _ ≤ _
    rw [exprL_len]
    have := pl_le (nopL t l) (fun c hc => ⟨known_len (exprOk_known he2 c hc), (rcall_i64 HM.out c hc).2⟩) (nopL t l).length
    have := HML.out
    omega
  have HE2 := Lib.hid he2
  have HO1 := Lib.hid ho1
  have HO2 := Lib.hid ho2
  clear he2 ho1 ho2
  clear hl hx hb he fc hnp
  conv => arg 2; whnf
  go_upto_region 21 with (go_at_call 27; go_must (refine (Expression_any w _ l _ Hl.out (HA.out.then FC.out) (by omega)).mono ?_); rintro e w5 hx5; obtain ⟨a5, k5, rfl, ho5, hf5⟩ := ExprPost.ok hx5 HE.out; have Ho5 := Lib.hid ho5; clear ho5 hx5; have FM5 : Hid (Fr [] wc w5) := hf5; have F5 : Hid (Fr [] (w.alloc (.cells #[.slice ra x.regs.length rc, vi x.base, vi x.cfa, .int .u64 (x.at_ : Int), .slice ma x.mem.length mc] 52)) w5) := FC.out.then hf5; clear hf5; obtain ⟨c50, c51, c52, c53, c54⟩ := box_at F5.out; )
  go_wp2_with (go_at_call 27; go_must (refine (Expression_any wc _ (nopL t l) _ HM.out FM5.out (by have := HML.out; omega)).mono ?_); rintro e w6 hx6; obtain ⟨a6, k6, rfl, ho6, hf6⟩ := ExprPost.ok hx6 HE2.out; have Ho6 := Lib.hid ho6; clear ho6 hx6; have FM6 : Hid (Fr [] wc w6) := FM5.out.then hf6; have FA6 : Hid (Fr [] w5 w6) := hf6; have F6 : Hid (Fr [] (w.alloc (.cells #[.slice ra x.regs.length rc, vi x.base, vi x.cfa, .int .u64 (x.at_ : Int), .slice ma x.mem.length mc] 52)) w6) := F5.out.then hf6; clear hf6; obtain ⟨c60, c61, c62, c63, c64⟩ := box_at F6.out; )
  go_upto_region 25 with (go_at_call 28; go_must (refine (sEvaluate_any w _ _ _ l x (exprL l).length _ Hl.out Hx.out (HA.out.then F6.out) HL.out HK.out HJ.out).mono ?_); rw [HO1.out]; rintro e w7 ⟨hf7, v7, pv7, rfl, hp7, hs7⟩; have FM7 : Hid (Fr [] wc w7) := FM6.out.then hf7; have FA7 : Hid (Fr [] w5 w7) := FA6.out.then hf7; have FB7 : Hid (Fr [] w6 w7) := hf7; clear hp7 hs7; have F7 : Hid (Fr [] (w.alloc (.cells #[.slice ra x.regs.length rc, vi x.base, vi x.cfa, .int .u64 (x.at_ : Int), .slice ma x.mem.length mc] 52)) w7) := F6.out.then hf7; clear hf7; obtain ⟨c70, c71, c72, c73, c74⟩ := box_at F7.out; )
  go_wp2_with (go_at_call 28; go_must (refine (sEvaluate_any wc _ _ _ (nopL t l) x (exprL (nopL t l)).length _ HM.out HXM.out FM7.out HL2.out HK2.out HJ2.out).mono ?_); rw [HO2.out]; rintro e w8 ⟨hf8, rfl⟩; have FM8 : Hid (Fr [] wc w8) := FM7.out.then hf8; have FA8 : Hid (Fr [] w5 w8) := FA7.out.then hf8; have FB8 : Hid (Fr [] w6 w8) := FB7.out.then hf8; have F8 : Hid (Fr [] (w.alloc (.cells #[.slice ra x.regs.length rc, vi x.base, vi x.cfa, .int .u64 (x.at_ : Int), .slice ma x.mem.length mc] 52)) w8) := F7.out.then hf8; clear hf8; obtain ⟨c80, c81, c82, c83, c84⟩ := box_at F8.out; )
  go_wp2_with (go_at_call 11; go_must (refine (works_any _).mono ?_); rintro e w9 ⟨rfl, hf9⟩; have F9 : Hid (Fr [] (w.alloc (.cells #[.slice ra x.regs.length rc, vi x.base, vi x.cfa, .int .u64 (x.at_ : Int), .slice ma x.mem.length mc] 52)) w9) := F8.out.then hf9; clear hf9; )
  go_wp2_with fail
  go_ret
  exact ⟨rfl, HA.out.then F9.out⟩
end Go.Proofs.Ytahohmdfllgedaa
