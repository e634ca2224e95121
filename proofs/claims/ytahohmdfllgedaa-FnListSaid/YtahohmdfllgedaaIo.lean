/- The plain buffer and the plain reader, read by many bytes; numbers of 2, 4, 8 bytes. -/
import Derived.Test.YtahohmdfllgedaaOwn
import Derived.Laws.BitsAllLaws
namespace Go.Proofs.Ytahohmdfllgedaa
open Go.RowKit

/-- The number that bytes stand for, the least first. -/
def leval : List UInt8 → Nat
  | [] => 0
  | x :: l => x.toNat + 256 * leval l
theorem leval_leL (k : Nat) : ∀ n, leval (leL n k) = n % 256 ^ k := by
  induction k with
  | zero => intro n; simp [leL, leval, Nat.mod_one]
  | succ k ih =>
    intro n
    rw [leL, leval, ih, ofNat_toNat (by omega), Nat.pow_succ, Nat.mul_comm (256 ^ k) 256, Nat.mod_mul]
theorem leval_lt (l : List UInt8) : leval l < 256 ^ l.length := by
  induction l with
  | nil => simp [leval]
  | cons x l ih =>
    have := x.toNat_lt
    simp only [leval, List.length_cons, Nat.pow_succ]
    omega

theorem or_u16 (a b : Nat) (ha : a < 256) (hb : b < 256) : bits .or .u16 (a : Int) ((b : Int) * 256) = ((a + 256 * b : Nat) : Int) := by
  have e : (b : Int) * 256 = ((256 * b : Nat) : Int) := by omega
  rw [e, u16_or_nat _ _ (by omega) (by omega), nat_join8' _ _ (by omega) (by omega), Nat.add_comm]
theorem or_u32 (a b c d : Nat) (ha : a < 256) (hb : b < 256) (hc : c < 256) (hd : d < 256) :
    bits .or .u32 (bits .or .u32 (bits .or .u32 (a : Int) ((b : Int) * 256)) ((c : Int) * 65536)) ((d : Int) * 16777216) = ((a + 256 * (b + 256 * (c + 256 * d)) : Nat) : Int) := by
  have e1 : (b : Int) * 256 = ((256 * b : Nat) : Int) := by omega
  have e2 : (c : Int) * 65536 = ((65536 * c : Nat) : Int) := by omega
  have e3 : (d : Int) * 16777216 = ((16777216 * d : Nat) : Int) := by omega
  rw [e1, u32_or_nat _ _ (by omega) (by omega), nat_join8' _ _ (by omega) (by omega), e2, u32_or_nat _ _ (by omega) (by omega), nat_join16' _ _ (by omega) (by omega), e3, u32_or_nat _ _ (by omega) (by omega), nat_join24' _ _ (by omega) (by omega)]
  omega
theorem or_u64 (a b : Nat) (ha : a < 4294967296) (hb : b < 4294967296) : bits .or .u64 (a : Int) ((b : Int) * 4294967296) = ((a + 4294967296 * b : Nat) : Int) := by
  have e : (b : Int) * 4294967296 = ((4294967296 * b : Nat) : Int) := by omega
  rw [e, u64_or_nat _ _ (by omega) (by omega), nat_join32' _ _ (by omega) (by omega), Nat.add_comm]
theorem or_u64w (a b : Nat) (ha : a < 4294967296) (hb : b < 4294967296) : bits .or .u64 (IntKind.u64.wrap (a : Int)) (IntKind.u64.wrap (IntKind.u64.wrap (b : Int) * 4294967296)) = ((a + 4294967296 * b : Nat) : Int) := by
  have e1 : IntKind.u64.wrap (a : Int) = (a : Int) := by simp [IntKind.wrap, IntKind.signed, IntKind.bits]; omega
  have e2 : IntKind.u64.wrap (b : Int) = (b : Int) := by simp [IntKind.wrap, IntKind.signed, IntKind.bits]; omega
  have e3 : IntKind.u64.wrap ((b : Int) * 4294967296) = (b : Int) * 4294967296 := by simp [IntKind.wrap, IntKind.signed, IntKind.bits]; omega
  rw [e1, e2, e3, or_u64 a b ha hb]
theorem leval_app (l m : List UInt8) : leval (l ++ m) = leval l + 256 ^ l.length * leval m := by
  induction l with
  | nil => simp [leval]
  | cons x l ih => simp only [List.cons_append, leval, ih, List.length_cons, Nat.pow_succ, Nat.mul_add, ← Nat.mul_assoc, Nat.mul_comm 256 (256 ^ l.length)]; omega

set_option maxRecDepth 100000 in
set_option maxHeartbeats 1000000 in
theorem Uint16_any (g o n c : Nat) (x0 x1 : UInt8) (w : World) (h : Cells w g o (vbs [x0, x1])) (hn : 2 ≤ n) :
    Calls Try.prog 150 #[.agg #[], .slice (some ⟨g, o, none⟩) n c] w fun e w' => e = .returned (.int .u16 ((leval [x0, x1] : Nat) : Int)) ∧ Fr [] w w' := by
  have c0 : (w.alloc (.cells #[] 95)).cell? ⟨g, o, none⟩ = some (.int .u8 ((x0.toNat : Nat) : Int)) := ((Fr.refl [] w).alloc _).cell (h 0 _ rfl) (by simp)
  have c1 : (w.alloc (.cells #[] 95)).cell? ⟨g, o + 1, none⟩ = some (.int .u8 ((x1.toNat : Nat) : Int)) := ((Fr.refl [] w).alloc _).cell (h 1 _ rfl) (by simp)
  have b0 := x0.toNat_lt
  have b1 := x1.toNat_lt
  have t1 : (0 : Int) < (n : Int) := by omega
  have t2 : (1 : Int) < (n : Int) := by omega
  have E : Hid (leval [x0, x1] = x0.toNat + 256 * x1.toNat) := rfl
  clear h
  generalize x0.toNat = y0 at *
  generalize x1.toNat = y1 at *
  go_enter Try.func150, Try.ntmps150
  go_wp2_with fail
  go_quiet (fail)
  go_wp2
  go_ret
  exact ⟨by show Ending.returned (.int .u16 (bits .or .u16 (y0 : Int) ((y1 : Int) * 256))) = _; rw [or_u16 _ _ (by omega) (by omega), E.out], ((Fr.refl [] w).alloc _).drewN _⟩

set_option maxRecDepth 100000 in
set_option maxHeartbeats 1000000 in
theorem Uint32_any (g o n c : Nat) (x0 x1 x2 x3 : UInt8) (w : World) (h : Cells w g o (vbs [x0, x1, x2, x3])) (hn : 4 ≤ n) :
    Calls Try.prog 151 #[.agg #[], .slice (some ⟨g, o, none⟩) n c] w fun e w' => e = .returned (.int .u32 ((leval [x0, x1, x2, x3] : Nat) : Int)) ∧ Fr [] w w' := by
  have c0 : (w.alloc (.cells #[] 95)).cell? ⟨g, o, none⟩ = some (.int .u8 ((x0.toNat : Nat) : Int)) := ((Fr.refl [] w).alloc _).cell (h 0 _ rfl) (by simp)
  have c1 : (w.alloc (.cells #[] 95)).cell? ⟨g, o + 1, none⟩ = some (.int .u8 ((x1.toNat : Nat) : Int)) := ((Fr.refl [] w).alloc _).cell (h 1 _ rfl) (by simp)
  have c2 : (w.alloc (.cells #[] 95)).cell? ⟨g, o + 2, none⟩ = some (.int .u8 ((x2.toNat : Nat) : Int)) := ((Fr.refl [] w).alloc _).cell (h 2 _ rfl) (by simp)
  have c3 : (w.alloc (.cells #[] 95)).cell? ⟨g, o + 3, none⟩ = some (.int .u8 ((x3.toNat : Nat) : Int)) := ((Fr.refl [] w).alloc _).cell (h 3 _ rfl) (by simp)
  have b0 := x0.toNat_lt
  have b1 := x1.toNat_lt
  have b2 := x2.toNat_lt
  have b3 := x3.toNat_lt
  have t1 : (0 : Int) < (n : Int) := by omega
  have t2 : (1 : Int) < (n : Int) := by omega
  have t3 : (2 : Int) < (n : Int) := by omega
  have t4 : (3 : Int) < (n : Int) := by omega
  have E : Hid (leval [x0, x1, x2, x3] = x0.toNat + 256 * (x1.toNat + 256 * (x2.toNat + 256 * x3.toNat))) := by show _ = _; simp [leval]
  clear h
  generalize x0.toNat = y0 at *
  generalize x1.toNat = y1 at *
  generalize x2.toNat = y2 at *
  generalize x3.toNat = y3 at *
  go_enter Try.func151, Try.ntmps151
  go_wp2_with fail
  go_quiet (fail)
  go_wp2
  go_ret
  exact ⟨by show Ending.returned (.int .u32 (bits .or .u32 (bits .or .u32 (bits .or .u32 (y0 : Int) ((y1 : Int) * 256)) ((y2 : Int) * 65536)) ((y3 : Int) * 16777216))) = _; rw [or_u32 _ _ _ _ (by omega) (by omega) (by omega) (by omega), E.out], ((Fr.refl [] w).alloc _).drewN _⟩

set_option maxRecDepth 100000 in
set_option maxHeartbeats 1000000 in
theorem Uint64_any (g o n c : Nat) (l : List UInt8) (w : World) (h : Cells w g o (vbs l)) (hl : l.length = 8) (hn : 8 ≤ n) (hc : n ≤ c) (hm : c ≤ 1099511627776) :
    Calls Try.prog 152 #[.agg #[], .slice (some ⟨g, o, none⟩) n c] w fun e w' => e = .returned (.int .u64 ((leval l : Nat) : Int)) ∧ Fr [] w w' := by
  match l, hl with
  | [x0, x1, x2, x3, x4, x5, x6, x7], _ =>
  have F0 : Fr [] w (w.alloc (.cells #[] 95)) := (Fr.refl [] w).alloc _
  have HB : Hid ((w.alloc (.cells #[] 95)).heap[w.heap.size]? = some (.cells #[] 95 (0, 0))) := blk_new _ _
  have c7 : (w.alloc (.cells #[] 95)).cell? ⟨g, o + 7, none⟩ = some (.int .u8 ((x7.toNat : Nat) : Int)) := F0.cell (h 7 _ rfl) (by simp)
  have C1 : Hid (Cells w g o (vbs [x0, x1, x2, x3])) := fun i v hi => h i v (by
    have : i < 4 := by have := (List.getElem?_eq_some_iff.1 hi).1; simpa using this
    match i, this with
    | 0, _ => exact hi
    | 1, _ => exact hi
    | 2, _ => exact hi
    | 3, _ => exact hi)
  have C2 : Hid (Cells w g (o + 4) (vbs [x4, x5, x6, x7])) := fun i v hi => by
    have := h (4 + i) v (by rw [Nat.add_comm]; exact hi)
    rwa [← Nat.add_assoc] at this
  have e1 : leval [x0, x1, x2, x3] < 4294967296 := by have := leval_lt [x0, x1, x2, x3]; simpa using this
  have e2 : leval [x4, x5, x6, x7] < 4294967296 := by have := leval_lt [x4, x5, x6, x7]; simpa using this
  have E : Hid (leval [x0, x1, x2, x3, x4, x5, x6, x7] = leval [x0, x1, x2, x3] + 4294967296 * leval [x4, x5, x6, x7]) := by show _ = _; have := leval_app [x0, x1, x2, x3] [x4, x5, x6, x7]; simpa using this
  obtain ⟨A, hA⟩ : ∃ A, leval [x0, x1, x2, x3] = A := ⟨_, rfl⟩
  obtain ⟨B, hB⟩ : ∃ B, leval [x4, x5, x6, x7] = B := ⟨_, rfl⟩
  rw [hA] at e1 E
  rw [hB] at e2 E
  have HA := Lib.hid hA
  have HBB := Lib.hid hB
  have H0 := Lib.hid F0
  have e1' : (A : Int) < 4294967296 := by omega
  have e2' : (B : Int) < 4294967296 := by omega
  have t1 : (7 : Int) < (n : Int) := by omega
  have t2 : (4 : Int) ≤ (n : Int) := by omega
  have t3 : (4 : Int) ≤ (c : Int) := by omega
  have t4 : ¬ (c : Int) = 4 := by omega
  have t5 : ¬ c = 4 := by omega
  clear h hA hB F0 e1 e2
  go_enter Try.func152, Try.ntmps152
  go_wp2_with fail
  go_region_held3 (fun _ => True) (trivial)
    (first | (have _t := HF1; go_at_call 151; go_must (refine (Uint32_any g (o + 4) _ _ x4 x5 x6 x7 _ (C2.out.fr HF1.out (by simp)) (by omega)).mono ?_); rw [HBB.out]; rintro e w2 ⟨rfl, hf2⟩; have HF2 := Lib.hid (HF1.out.then hf2); clear hf2)
           | (go_at_call 151; go_must (refine (Uint32_any g o n c x0 x1 x2 x3 _ (C1.out.fr H0.out.drew (by simp)) (by omega)).mono ?_); rw [HA.out]; rintro e w1 ⟨rfl, hf1⟩; have HF1 := Lib.hid (H0.out.drew.then hf1); clear hf1))
  all_goals
    go_wp2_with fail
    go_ret
    exact ⟨by rw [E.out, ← or_u64w A B (by omega) (by omega)]; rfl, HF2.out⟩

/-! ### the reader, and reading by many bytes -/
def RdrR (w : World) (b : Nat) (v : Value) (l : List UInt8) (off : Nat) : Prop :=
  w.heap[b]? = some (.cells #[v, .int .i64 (off : Int)] 220 (0, 0)) ∧ Sl w v (vbs l) ∧ v.ownBlock ≠ some b ∧ off ≤ l.length ∧ l.length ≤ 1099511627776
/-- A buffer (k), or a reader. -/
def SrcR (k : Bool) (w : World) (b : Nat) (v : Value) (l : List UInt8) (off : Nat) : Prop := if k then ∃ rd, BufR w b v l off rd else RdrR w b v l off
def srcT (k : Bool) : Nat := if k then 75 else 207
def srcV (k : Bool) (b : Nat) : Value := .iface (srcT k) (.pointer (some ⟨b, 0, none⟩))

/-- copy over a whole row, at a step of a region. -/
theorem copy_step {ops : Array Oper} {o : Oper} {a : Act} {w : World} {K : Act → World → Prop} {Q : Exit → Act → World → Prop} {E : Prop} (hgd : o.guard = none) (d s : Operand)
    (ho : o.op = .call { callee := .builtin .copy, args := #[d, s], argTypes := #[23, 23] }) (g dCap : Nat) (sp : Option Addr) (m sLen sCap : Nat)
    (hd : a.eval d = .slice (some ⟨g, 0, none⟩) m dCap) (hs : a.eval s = .slice sp sLen sCap) (cur : Array Value) (hg : w.heap[g]? = some (.cells cur 5 (0, 0))) (hcur : cur.size = m)
    (l : List UInt8) (hl : l.length = m) (hsl : m ≤ sLen) (ad : Addr) (hsp : sp = some ad) (hsrc : ∀ j v, (vbs l)[j]? = some v → w.cell? (ad.add j) = some v)
    (h : ∀ w', w'.heap[g]? = some (.cells (vbs l).toArray 5 (0, 0)) → Fr [g] w w' → K (a.put o.dst (.int .i64 (m : Int))) w') :
    if Region.wanted o (yielded ops a.tmps) = true then Oper.wp Try.prog o a w K Q else E := by
  have hw : Region.wanted o (yielded ops a.tmps) = true := by simp [Region.wanted, hgd]
  rw [if_pos hw]
  subst hsp
  have hn : (vbs l).length = Nat.min sLen m := by rw [List.length_map, hl, Nat.min_eq_min]; omega
  have hrun := run_copy_row (P := Try.prog) w 23 23 o.type 5 g 0 m dCap ad sLen sCap cur 5 (vbs l) Try.underlying23 (by kernel_rfl) hg hn hsrc (by simp; omega) (vbs_one l)
  unfold Oper.wp
  simp [execOp, ho, resolve, invoke, builtin, hd, hs, hrun, Result.andThen]
  have e : (List.map vb l ++ List.drop l.length cur.toList) = vbs l := by
    rw [List.drop_of_length_le (by simp; omega), List.append_nil]
  rw [e, hl]
  exact h _ (setRow_heap w g _ _ _ _ hg) ⟨rfl, rfl, rfl, by simp [World.setRow], fun k hk hn => setRow_other w g k _ (by simpa using hn)⟩

theorem drop_take_cells {w : World} {g o : Nat} {l : List UInt8} (h : Cells w g o (vbs l)) (off m : Nat) : Cells w g (o + off) (vbs ((l.drop off).take m)) := by
  have := (h.drop off).take m
  simpa [List.map_drop, List.map_take] using this

set_option maxRecDepth 100000 in
set_option maxHeartbeats 2000000 in
theorem BufRead_any (b : Nat) (v : Value) (l : List UInt8) (off : Nat) (rd : Bool) (g m c : Nat) (cur : Array Value) (w : World) (h : BufR w b v l off rd) (hm : 0 < m) (ho : off + m ≤ l.length)
    (hg : w.heap[g]? = some (.cells cur 5 (0, 0))) (hcur : cur.size = m) (hgb : g ≠ b) (hgv : v.ownBlock ≠ some g) :
    Calls Try.prog 128 #[.pointer (some ⟨b, 0, none⟩), .slice (some ⟨g, 0, none⟩) m c] w fun e w' =>
      e = .returned (.tuple #[.int .i64 (m : Int), .nilIface]) ∧ BufR w' b v l (off + m) true ∧ w'.heap[g]? = some (.cells (vbs ((l.drop off).take m)).toArray 5 (0, 0)) ∧ Fr [b, g] w w' := by
  obtain ⟨hb, hs, hne, -, hl⟩ := h
  obtain ⟨a, cc, rfl, h1, h2, h3, -⟩ := hs.shape
  obtain ⟨gs, os, rfl, hc⟩ := h3 (by omega)
  have hne' : Hid (gs ≠ b) := by show gs ≠ b; simpa [Value.ownBlock] using hne
  have hgv' : Hid (gs ≠ g) := by show gs ≠ g; simpa [Value.ownBlock] using hgv
  have hgb' := Lib.hid hgb
  unfold maxLen at h2
  have c2 : w.cell? ⟨b, 2, none⟩ = some (.bool rd) := by rw [blk_cell hb]; rfl
  have f2 : w.frozen? ⟨b, 2, none⟩ = false := blk_free hb _
  have hb1 : (w.setCell ⟨b, 2, none⟩ (.bool false)).heap[b]? = some (.cells #[.slice (some ⟨gs, os, none⟩) l.length cc, .int .i64 (off : Int), .bool false] 79 (0, 0)) := by simpa using blk_set hb 2 (.bool false)
  have hF1 : Fr [b] w (w.setCell ⟨b, 2, none⟩ (.bool false)) := (Fr.refl _ _).setCell (.inl (by simp)) _
  have hB1 : BufR (w.setCell ⟨b, 2, none⟩ (.bool false)) b (.slice (some ⟨gs, os, none⟩) l.length cc) l off false := ⟨hb1, hs.fr hF1 (by intro g' hg'; simp [Value.ownBlock] at hg'; subst hg'; simpa using hne'.out), by simpa [Value.ownBlock] using hne'.out, by omega, hl⟩
  generalize hw1 : w.setCell ⟨b, 2, none⟩ (.bool false) = w1 at *
  have c0 : w1.cell? ⟨b, 0, none⟩ = some (.slice (some ⟨gs, os, none⟩) l.length cc) := by rw [blk_cell hb1]; rfl
  have c1 : w1.cell? ⟨b, 1, none⟩ = some (.int .i64 (off : Int)) := by rw [blk_cell hb1]; rfl
  have Hc : Hid (Cells w1 gs (os + off) (vbs ((l.drop off).take m))) := drop_take_cells (hc.fr hF1 (by simpa using hne'.out)) off m
  have Hg1 : Hid (w1.heap[g]? = some (.cells cur 5 (0, 0))) := hF1.get hg (by simpa using hgb)
  have HB1 := Lib.hid hB1
  have Hb1 := Lib.hid hb1
  have HF1 := Lib.hid hF1
  have Hcur := Lib.hid hcur
  have Hs := Lib.hid hs
  have Hw1 := Lib.hid hw1
  have Hml : Hid (((l.drop off).take m).length = m) := by show _ = _; rw [List.length_take, List.length_drop]; omega
  have hlen : (off : Int) ≤ (l.length : Int) := by omega
  have hcap : (off : Int) ≤ (cc : Int) := by omega
  have hcap2 : ¬ cc = off := by omega
  have hlo : m ≤ l.length - off := by omega
  have hx : 0 < l.length - off := by omega
  have hne2 : (((l.length - off : Nat) : Int) == 0) = false := by simp; omega
  clear hb hs hne h1 h3 hgb hgv hc hg hcur hb1 hF1 hB1 hw1
  go_enter Try.func128, Try.ntmps128
  go_wp2_with (go_at_call 69; rw [Hw1.out]; refine (BufLen_any b _ l off (l.length - off) false _ HB1.out (by omega)).mono ?_; rintro e w' ⟨rfl, k, rfl⟩)
  go_region_held3 (fun w' => w'.cell? ⟨b, 0, none⟩ = some (.slice (some ⟨gs, os, none⟩) l.length cc) ∧ w'.cell? ⟨b, 1, none⟩ = some (.int .i64 (off : Int)))
    (first | exact ⟨HF2.out.cell c0 (by simpa using hgb'.out.symm), HF2.out.cell c1 (by simpa using hgb'.out.symm)⟩ | exact ⟨c0, c1⟩)
    ((refine copy_step (by rfl) _ _ (by rfl) g c (some ⟨gs, os + off, none⟩) m (l.length - off) (cc - off) (by rfl) (by rfl) cur Hg1.out Hcur.out _ Hml.out hlo ⟨gs, os + off, none⟩ (by rfl) (fun j v hj => by rw [Addr.add_lit]; exact Hc.out j v hj) ?_; intro w2 hg2 hf2; have Hg2 := Lib.hid hg2; have HF2 : Hid (Fr [g] w1 w2) := ⟨hf2.os, hf2.tape, hf2.output, hf2.size, hf2.blk⟩; clear hg2 hf2))
  all_goals
    have hb2 : w2.heap[b]? = some (.cells #[.slice (some ⟨gs, os, none⟩) l.length cc, .int .i64 (off : Int), .bool false] 79 (0, 0)) := HF2.out.get Hb1.out (by simpa using hgb'.out.symm)
    have d1 : w2.cell? ⟨b, 1, none⟩ = some (.int .i64 (off : Int)) := by rw [blk_cell hb2]; rfl
    have d2 : w2.cell? ⟨b, 2, none⟩ = some (.bool false) := by rw [blk_cell hb2]; rfl
    have e1 : w2.frozen? ⟨b, 1, none⟩ = false := blk_free hb2 _
    have e2 : w2.frozen? ⟨b, 2, none⟩ = false := blk_free hb2 _
    have hmi : (0 : Int) < (m : Int) := by omega
    have Hb2 := Lib.hid hb2
    clear hb2 c0 c1
    go_wp2
    go_ret2
    refine ⟨rfl, ⟨?_, ?_, by simpa [Value.ownBlock] using hne'.out, by omega, hl⟩, ?_, ?_⟩
    · simpa using blk_set (w := w2.setCell ⟨b, 1, none⟩ (.int .i64 ((off : Int) + m))) (blk_set (w := w2) Hb2.out 1 _) 2 (.bool true)
    · refine Hs.out.fr (bs := [b, g]) ((((HF1.out.mono (bs := [b, g]) (by simp)).trans HF2.out (by simp)).setCell (.inl (by simp)) _).setCell (.inl (by simp)) _) ?_
      intro g' hg'; simp [Value.ownBlock] at hg'; subst hg'; simpa using ⟨hne'.out, hgv'.out⟩
    · have := blk_set_other (blk_set_other Hg2.out (i := 1) (u := .int .i64 ((off : Int) + m)) hgb'.out) (i := 2) (u := .bool true) hgb'.out
      simpa using this
    · exact (((HF1.out.mono (bs := [b, g]) (by simp)).trans HF2.out (by simp)).setCell (.inl (by simp)) _).setCell (.inl (by simp)) _
end Go.Proofs.Ytahohmdfllgedaa
