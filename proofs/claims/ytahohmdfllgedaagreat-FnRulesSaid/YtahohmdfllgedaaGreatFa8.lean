/- The package's call frame instructions. Printed by gen_gx.py.
dvframe.cloneRegs: a new map that holds the same rules.
The package's stack of states: push, pop; remember_state, restore_state.
remember_state, restore_state.
dvframe.lookupFunc, executeDwarfInstruction. Printed by gen_gex.py. -/
import Derived.Test.YtahohmdfllgedaaGreatFa7
import Derived.Test.YtahohmdfllgedaaGreatFa5
import Derived.Test.YtahohmdfllgedaaGreatFa1
import Derived.Laws.Panics
set_option linter.unusedVariables false
set_option linter.unusedSimpArgs false
namespace Go.Proofs.YtahohmdfllgedaaGreat
open Go.RowKit

/-- Behind an instruction. -/
def XPost (w0 : World) (fb : Nat) (K : FK) (xv v : Value) (loc : Nat) (s : LSta) (l : List UInt8) (off : Nat) (e : Ending) (w' : World) : Prop :=
  e = .returned (.tuple #[]) ∧ ∃ mb ev sv qs rd, FX w0 w' fb K mb ev sv qs xv v loc s l off rd

section
variable {w0 w : World} {fb : Nat} {K : FK} {mb : Nat} {ev sv : Value} {qs : List SQ} {xv v : Value} {loc : Nat} {s : LSta} {l : List UInt8} {off : Nat} {rd : Bool}
theorem FX.c9 (h : FX w0 w fb K mb ev sv qs xv v loc s l off rd) : w.cell? ⟨fb, 9, none⟩ = some (.pointer (some ⟨K.bb, 0, none⟩)) := h.cell 9
theorem FX.c7 (h : FX w0 w fb K mb ev sv qs xv v loc s l off rd) : w.cell? ⟨fb, 7, none⟩ = some (.map (some mb)) := h.cell 7
theorem FX.c13 (h : FX w0 w fb K mb ev sv qs xv v loc s l off rd) : w.cell? ⟨fb, 13, none⟩ = some (.int .i64 K.dal) := h.cell 13
theorem FX.c12 (h : FX w0 w fb K mb ev sv qs xv v loc s l off rd) : w.cell? ⟨fb, 12, none⟩ = some (.int .u64 (K.code : Int)) := h.cell 12
theorem FX.c0 (h : FX w0 w fb K mb ev sv qs xv v loc s l off rd) : w.cell? ⟨fb, 0, none⟩ = some (.int .u64 (loc : Int)) := h.cell 0
theorem FX.mb_ne (h : FX w0 w fb K mb ev sv qs xv v loc s l off rd) : mb ≠ fb := (h.fo.mp.cell_ne h.fc).symm
/-- The map's update, in the world behind a draw. -/
theorem FX.upd (h : FX w0 w fb K mb ev sv qs xv v loc s l off rd) {wd : World} (hd : Fr [] w wd) (k : Int) (r : LRule) (u : Value) (hr : RulR w xv r u) :
    ∃ w', (Instr.mapUpdate 82 (.map (some mb)) (.int .u64 k) u).run Tryz.prog wd = .ok () w' ∧ FX w0 w' fb K mb ev sv qs xv v loc (s.1.put k r, s.2) l off rd ∧ Fr [mb] wd w' := by
  obtain ⟨f, hm, hk⟩ := h.fo.mp
  obtain ⟨w', hrun, hm', hf'⟩ := MapIs.update (P := Tryz.prog) (hm.fr hd (by simp)) Tryz.underlying82 Tryz.underlying23 k u
  exact ⟨w', hrun, FX.put (h.idle hd) (fun j => (hk j).imp id (fun ⟨r, v, a, b, c⟩ => ⟨r, v, a, b, c.fr hd (by simp)⟩)) (hm.fr hd (by simp)) hm' hf' (hr.fr hd (by simp)), hf'⟩
/-- The next bytes. -/
theorem FX.next (h : FX w0 w fb K mb ev sv qs v v loc s l off rd) (d rest : List UInt8) (hp : l.drop off = d ++ rest) (hl : 0 < l.length) (hd : d.length ≤ 60) :
    Calls Tryz.prog 72 #[.pointer (some ⟨K.bb, 0, none⟩), .int .i64 (d.length : Int)] w fun e w' => ∃ a c, e = .returned (.slice a d.length c) ∧ ExV w' v (.slice a d.length c) d ∧ FX w0 w' fb K mb ev sv qs v v loc s l (off + d.length) (decide (0 < d.length)) := by
  have hlen : off + d.length ≤ l.length := by
    have := congrArg List.length hp; rw [List.length_drop, List.length_append] at this; have := h.bf.2.2.2.1; omega
  refine (BufNext_any K.bb v l off d.length rd w h.bf hlen hl).mono ?_
  rintro e w' ⟨⟨a, c, rfl, hs, ho⟩, hb, hf⟩
  have ht : (l.drop off).take d.length = d := by rw [hp, List.take_left]
  rw [ht] at hs
  exact ⟨a, c, rfl, ⟨hs, ho⟩, h.call hb hf⟩
theorem FX.fix16 (h : FX w0 w fb K mb ev sv qs xv v loc s l off rd) (hord : K.ord = .iface 69 (.agg #[])) (n : Nat) (hn : n < 65536) (rest : List UInt8) (hp : l.drop off = leL n 2 ++ rest) {wd : World} (hd : Fr [] w wd) {p : Nat} (hge : w0.heap.size ≤ p) (hb : wd.heap[p]? = some (.cells #[.int .u16 0] 167 (0, 0))) :
    Calls Tryz.prog 52 #[.iface 83 (.pointer (some ⟨K.bb, 0, none⟩)), .iface 69 (.agg #[]), .iface 157 (.pointer (some ⟨p, 0, none⟩))] wd fun e w' =>
      e = .returned .nilIface ∧ (∃ rd', FX w0 w' fb K mb ev sv qs xv v loc s l (off + 2) rd') ∧ w'.heap[p]? = some (.cells #[.int .u16 (n : Int)] 167 (0, 0)) := by
  have hD := h.idle hd
  have hlen : off + 2 ≤ l.length := by
    have := congrArg List.length hp; rw [List.length_drop, List.length_append, leL_length] at this; have := h.bf.2.2.2.1; omega
  have hv : leval ((l.drop off).take 2) = n := by rw [hp, List.take_append_of_le_length (by rw [leL_length]; omega), List.take_of_length_le (by rw [leL_length]; omega), leval_leL]; omega
  have hpb : p ≠ K.bb := cells_ne hb hD.bf.1 (by decide)
  have hpf : p ≠ fb := cells_ne hb hD.fc (by decide)
  refine (ReadFixed_u16 true K.bb v l off p 0 #[.int .u16 0] 167 0 wd ⟨rd, hD.bf⟩ hlen hb rfl hpb hD.bf.lt (fun g hg => ?_)).mono ?_
  · obtain ⟨cur, hc⟩ := own_cells hD.fo.ow hg
    exact ⟨lt_heap hc, cells_ne hc hb (by decide)⟩
  rintro e w' ⟨rfl, ⟨rd', hb'⟩, hp', hf⟩
  rw [hv] at hp'
  refine ⟨rfl, ⟨rd', hf.get hD.fc (by simp; exact ⟨hD.buf_ne.symm, hpf.symm⟩), hb', hD.fo.keep hf (fun k hk => ?_), hD.fr.trans hf (fun i hi hlt => ?_), hD.gf⟩, hp'⟩
  · simp at hk
    rcases hk with rfl | rfl
    · exact ⟨_, _, _, hD.bf.1, by decide⟩
    · exact ⟨_, _, _, hb, by decide⟩
  · simp at hi
    rcases hi with rfl | rfl
    · have := hD.fo.gb; omega
    · exact absurd hlt (by have := hge; omega)
theorem FX.fix32 (h : FX w0 w fb K mb ev sv qs xv v loc s l off rd) (hord : K.ord = .iface 69 (.agg #[])) (n : Nat) (hn : n < 4294967296) (rest : List UInt8) (hp : l.drop off = leL n 4 ++ rest) {wd : World} (hd : Fr [] w wd) {p : Nat} (hge : w0.heap.size ≤ p) (hb : wd.heap[p]? = some (.cells #[.int .u32 0] 99 (0, 0))) :
    Calls Tryz.prog 52 #[.iface 83 (.pointer (some ⟨K.bb, 0, none⟩)), .iface 69 (.agg #[]), .iface 134 (.pointer (some ⟨p, 0, none⟩))] wd fun e w' =>
      e = .returned .nilIface ∧ (∃ rd', FX w0 w' fb K mb ev sv qs xv v loc s l (off + 4) rd') ∧ w'.heap[p]? = some (.cells #[.int .u32 (n : Int)] 99 (0, 0)) := by
  have hD := h.idle hd
  have hlen : off + 4 ≤ l.length := by
    have := congrArg List.length hp; rw [List.length_drop, List.length_append, leL_length] at this; have := h.bf.2.2.2.1; omega
  have hv : leval ((l.drop off).take 4) = n := by rw [hp, List.take_append_of_le_length (by rw [leL_length]; omega), List.take_of_length_le (by rw [leL_length]; omega), leval_leL]; omega
  have hpb : p ≠ K.bb := cells_ne hb hD.bf.1 (by decide)
  have hpf : p ≠ fb := cells_ne hb hD.fc (by decide)
  refine (ReadFixed_u32 true K.bb v l off p 0 #[.int .u32 0] 99 0 wd ⟨rd, hD.bf⟩ hlen hb rfl hpb hD.bf.lt (fun g hg => ?_)).mono ?_
  · obtain ⟨cur, hc⟩ := own_cells hD.fo.ow hg
    exact ⟨lt_heap hc, cells_ne hc hb (by decide)⟩
  rintro e w' ⟨rfl, ⟨rd', hb'⟩, hp', hf⟩
  rw [hv] at hp'
  refine ⟨rfl, ⟨rd', hf.get hD.fc (by simp; exact ⟨hD.buf_ne.symm, hpf.symm⟩), hb', hD.fo.keep hf (fun k hk => ?_), hD.fr.trans hf (fun i hi hlt => ?_), hD.gf⟩, hp'⟩
  · simp at hk
    rcases hk with rfl | rfl
    · exact ⟨_, _, _, hD.bf.1, by decide⟩
    · exact ⟨_, _, _, hb, by decide⟩
  · simp at hi
    rcases hi with rfl | rfl
    · have := hD.fo.gb; omega
    · exact absurd hlt (by have := hge; omega)
theorem FX.fix64 (h : FX w0 w fb K mb ev sv qs xv v loc s l off rd) (hord : K.ord = .iface 69 (.agg #[])) (n : Nat) (hn : n < 18446744073709551616) (rest : List UInt8) (hp : l.drop off = leL n 8 ++ rest) {wd : World} (hd : Fr [] w wd) {p : Nat} (hge : w0.heap.size ≤ p) (hb : wd.heap[p]? = some (.cells #[.int .u64 0] 23 (0, 0))) :
    Calls Tryz.prog 52 #[.iface 83 (.pointer (some ⟨K.bb, 0, none⟩)), .iface 69 (.agg #[]), .iface 160 (.pointer (some ⟨p, 0, none⟩))] wd fun e w' =>
      e = .returned .nilIface ∧ (∃ rd', FX w0 w' fb K mb ev sv qs xv v loc s l (off + 8) rd') ∧ w'.heap[p]? = some (.cells #[.int .u64 (n : Int)] 23 (0, 0)) := by
  have hD := h.idle hd
  have hlen : off + 8 ≤ l.length := by
    have := congrArg List.length hp; rw [List.length_drop, List.length_append, leL_length] at this; have := h.bf.2.2.2.1; omega
  have hv : leval ((l.drop off).take 8) = n := by rw [hp, List.take_append_of_le_length (by rw [leL_length]; omega), List.take_of_length_le (by rw [leL_length]; omega), leval_leL]; omega
  have hpb : p ≠ K.bb := cells_ne hb hD.bf.1 (by decide)
  have hpf : p ≠ fb := cells_ne hb hD.fc (by decide)
  refine (ReadFixed_u64 true K.bb v l off p 0 #[.int .u64 0] 23 0 wd ⟨rd, hD.bf⟩ hlen hb rfl hpb hD.bf.lt (fun g hg => ?_)).mono ?_
  · obtain ⟨cur, hc⟩ := own_cells hD.fo.ow hg
    exact ⟨lt_heap hc, cells_ne hc hb (by decide)⟩
  rintro e w' ⟨rfl, ⟨rd', hb'⟩, hp', hf⟩
  rw [hv] at hp'
  refine ⟨rfl, ⟨rd', hf.get hD.fc (by simp; exact ⟨hD.buf_ne.symm, hpf.symm⟩), hb', hD.fo.keep hf (fun k hk => ?_), hD.fr.trans hf (fun i hi hlt => ?_), hD.gf⟩, hp'⟩
  · simp at hk
    rcases hk with rfl | rfl
    · exact ⟨_, _, _, hD.bf.1, by decide⟩
    · exact ⟨_, _, _, hb, by decide⟩
  · simp at hi
    rcases hi with rfl | rfl
    · have := hD.fo.gb; omega
    · exact absurd hlt (by have := hge; omega)
theorem RulR.mk (w : World) (xv : Value) (k n : Int) (r : Int) : RulR w xv ⟨k, r, n, []⟩ (.agg #[.int .u8 k, .int .i64 n, .int .u64 r, .slice none 0 0]) := ⟨_, rfl, ExV.nil _ _⟩

set_option maxRecDepth 100000 in
set_option maxHeartbeats 4000000 in
theorem x_undefined_any (h : FX w0 w fb K mb ev sv qs xv v loc s l off rd) (a : Nat) (rest : List UInt8) (hp : l.drop off = uleb a ++ rest) (ha : a < 65536) :
    Calls Tryz.prog 108 #[ptrX fb] w (XPost w0 fb K xv v loc (s.1.put (a : Int) ⟨0, 0, 0, []⟩, s.2) l (off + (uleb a).length)) := by
  have H := Lib.hid h
  have c9 := h.c9
  have P0 : Hid (l.drop (off) = uleb a ++ (rest)) := hp
  clear h hp
  go_enter Tryz.func108, Tryz.ntmps108
  go_wp2_with (go_at_call 37; go_must (refine (H.out.readU a (by omega) _ P0.out).mono ?_))
  rintro e w1 ⟨rfl, h1⟩
  have H1 := Lib.hid h1
  have c9_1 := h1.c9
  clear h1
  obtain ⟨wz, hrun, hz, hfz⟩ := H1.out.upd (Fr.refl [] w1) (a : Int) ⟨0, 0, 0, []⟩ _ (RulR.mk w1 xv 0 0 0)
  have HZ := Lib.hid hz
  have k7 := H1.out.c7
  clear hz hfz
  go_wp2_with fail
  go_end0
  exact ⟨rfl, _, _, _, _, _, HZ.out⟩

set_option maxRecDepth 100000 in
set_option maxHeartbeats 4000000 in
theorem x_samevalue_any (h : FX w0 w fb K mb ev sv qs xv v loc s l off rd) (a : Nat) (rest : List UInt8) (hp : l.drop off = uleb a ++ rest) (ha : a < 65536) :
    Calls Tryz.prog 109 #[ptrX fb] w (XPost w0 fb K xv v loc (s.1.put (a : Int) ⟨1, 0, 0, []⟩, s.2) l (off + (uleb a).length)) := by
  have H := Lib.hid h
  have c9 := h.c9
  have P0 : Hid (l.drop (off) = uleb a ++ (rest)) := hp
  clear h hp
  go_enter Tryz.func109, Tryz.ntmps109
  go_wp2_with (go_at_call 37; go_must (refine (H.out.readU a (by omega) _ P0.out).mono ?_))
  rintro e w1 ⟨rfl, h1⟩
  have H1 := Lib.hid h1
  have c9_1 := h1.c9
  clear h1
  obtain ⟨wz, hrun, hz, hfz⟩ := H1.out.upd (Fr.refl [] w1) (a : Int) ⟨1, 0, 0, []⟩ _ (RulR.mk w1 xv 1 0 0)
  have HZ := Lib.hid hz
  have k7 := H1.out.c7
  clear hz hfz
  go_wp2_with fail
  go_end0
  exact ⟨rfl, _, _, _, _, _, HZ.out⟩

set_option maxRecDepth 100000 in
set_option maxHeartbeats 4000000 in
theorem x_register_any (h : FX w0 w fb K mb ev sv qs xv v loc s l off rd) (a b : Nat) (rest : List UInt8) (hp : l.drop off = uleb a ++ (uleb b ++ rest)) (ha : a < 65536) (hb : b < 1073741824) :
    Calls Tryz.prog 110 #[ptrX fb] w (XPost w0 fb K xv v loc (s.1.put (a : Int) ⟨4, (b : Int), 0, []⟩, s.2) l (off + (uleb a).length + (uleb b).length)) := by
  have H := Lib.hid h
  have c9 := h.c9
  have P0 : Hid (l.drop (off) = uleb a ++ (uleb b ++ (rest))) := hp
  have P1 : Hid (l.drop (off + (uleb a).length) = uleb b ++ (rest)) := by show _ = _; rw [← List.drop_drop, P0.out]; exact List.drop_left
  clear h hp
  go_enter Tryz.func110, Tryz.ntmps110
  go_wp2_with (go_at_call 37; go_must (refine (H.out.readU a (by omega) _ P0.out).mono ?_))
  rintro e w1 ⟨rfl, h1⟩
  have H1 := Lib.hid h1
  have c9_1 := h1.c9
  clear h1
  go_wp2_with (go_at_call 37; go_must (refine (H1.out.readU b (by omega) _ P1.out).mono ?_))
  rintro e w2 ⟨rfl, h2⟩
  have H2 := Lib.hid h2
  have c9_2 := h2.c9
  clear h2
  obtain ⟨wz, hrun, hz, hfz⟩ := H2.out.upd (Fr.refl [] w2) (a : Int) ⟨4, (b : Int), 0, []⟩ _ (RulR.mk w2 xv 4 0 (b : Int))
  have HZ := Lib.hid hz
  have k7 := H2.out.c7
  clear hz hfz
  go_wp2_with fail
  go_end0
  exact ⟨rfl, _, _, _, _, _, HZ.out⟩

set_option maxRecDepth 100000 in
set_option maxHeartbeats 4000000 in
theorem x_offsetextended_any (h : FX w0 w fb K mb ev sv qs xv v loc s l off rd) (a b : Nat) (rest : List UInt8) (hp : l.drop off = uleb a ++ (uleb b ++ rest)) (ha : a < 65536) (hb : b < 1073741824) (hw : IntKind.i64.wrap ((b : Int) * K.dal) = (b : Int) * K.dal) :
    Calls Tryz.prog 106 #[ptrX fb] w (XPost w0 fb K xv v loc (s.1.put (a : Int) ⟨2, 0, (b : Int) * K.dal, []⟩, s.2) l (off + (uleb a).length + (uleb b).length)) := by
  have H := Lib.hid h
  have c9 := h.c9
  have P0 : Hid (l.drop (off) = uleb a ++ (uleb b ++ (rest))) := hp
  have P1 : Hid (l.drop (off + (uleb a).length) = uleb b ++ (rest)) := by show _ = _; rw [← List.drop_drop, P0.out]; exact List.drop_left
  have hwb : IntKind.i64.wrap (b : Int) = (b : Int) := IntWalk.i64_in _ (by omega)
  obtain ⟨p, hpe⟩ : ∃ p, (b : Int) * K.dal = p := ⟨_, rfl⟩
  rw [hpe] at hw ⊢
  clear h hp
  go_enter Tryz.func106, Tryz.ntmps106
  go_wp2_with (go_at_call 37; go_must (refine (H.out.readU a (by omega) _ P0.out).mono ?_))
  rintro e w1 ⟨rfl, h1⟩
  have H1 := Lib.hid h1
  have c9_1 := h1.c9
  clear h1
  go_wp2_with (go_at_call 37; go_must (refine (H1.out.readU b (by omega) _ P1.out).mono ?_))
  rintro e w2 ⟨rfl, h2⟩
  have H2 := Lib.hid h2
  have c9_2 := h2.c9
  clear h2
  obtain ⟨wz, hrun, hz, hfz⟩ := H2.out.upd ((Fr.refl [] w2).drew) (a : Int) ⟨2, 0, p, []⟩ _ (RulR.mk w2 xv 2 p 0)
  have HZ := Lib.hid hz
  have k7 := H2.out.c7
  have k13 := H2.out.c13
  have NE := Lib.hid H2.out.mb_ne.symm
  have HFZ : Hid (Fr [mb] w2 wz) := ((Fr.refl [mb] w2).drew).trans hfz (fun i h _ => h)
  clear hz hfz
  go_wp2_with fail
  go_region_held3 (fun w' => w'.cell? ⟨fb, 7, none⟩ = some (.map (some mb)) ∧ w'.cell? ⟨fb, 13, none⟩ = some (.int .i64 K.dal))
    (first | exact ⟨k7, k13⟩ | exact ⟨HFZ.out.cell k7 (by simpa using NE.out), HFZ.out.cell k13 (by simpa using NE.out)⟩)
    (fail)
  all_goals
    go_wp2_with fail
    go_end0
    exact ⟨rfl, _, _, _, _, _, HZ.out⟩

set_option maxRecDepth 100000 in
set_option maxHeartbeats 4000000 in
theorem x_offsetextendedsf_any (h : FX w0 w fb K mb ev sv qs xv v loc s l off rd) (a : Nat) (b : Int) (rest : List UInt8) (hp : l.drop off = uleb a ++ (sleb b ++ rest)) (ha : a < 65536) (hb1 : -1073741824 < b) (hb2 : b < 1073741824) (hw : IntKind.i64.wrap (b * K.dal) = b * K.dal) :
    Calls Tryz.prog 118 #[ptrX fb] w (XPost w0 fb K xv v loc (s.1.put (a : Int) ⟨2, 0, b * K.dal, []⟩, s.2) l (off + (uleb a).length + (sleb b).length)) := by
  have H := Lib.hid h
  have c9 := h.c9
  have P0 : Hid (l.drop (off) = uleb a ++ (sleb b ++ (rest))) := hp
  have P1 : Hid (l.drop (off + (uleb a).length) = sleb b ++ (rest)) := by show _ = _; rw [← List.drop_drop, P0.out]; exact List.drop_left
  obtain ⟨p, hpe⟩ : ∃ p, b * K.dal = p := ⟨_, rfl⟩
  rw [hpe] at hw ⊢
  clear h hp
  go_enter Tryz.func118, Tryz.ntmps118
  go_wp2_with (go_at_call 37; go_must (refine (H.out.readU a (by omega) _ P0.out).mono ?_))
  rintro e w1 ⟨rfl, h1⟩
  have H1 := Lib.hid h1
  have c9_1 := h1.c9
  clear h1
  go_wp2_with (go_at_call 75; go_must (refine (H1.out.readS b (by omega) (by omega) _ P1.out).mono ?_))
  rintro e w2 ⟨rfl, h2⟩
  have H2 := Lib.hid h2
  have c9_2 := h2.c9
  clear h2
  obtain ⟨wz, hrun, hz, hfz⟩ := H2.out.upd ((Fr.refl [] w2).drew) (a : Int) ⟨2, 0, p, []⟩ _ (RulR.mk w2 xv 2 p 0)
  have HZ := Lib.hid hz
  have k7 := H2.out.c7
  have k13 := H2.out.c13
  have NE := Lib.hid H2.out.mb_ne.symm
  have HFZ : Hid (Fr [mb] w2 wz) := ((Fr.refl [mb] w2).drew).trans hfz (fun i h _ => h)
  clear hz hfz
  go_wp2_with fail
  go_region_held3 (fun w' => w'.cell? ⟨fb, 7, none⟩ = some (.map (some mb)) ∧ w'.cell? ⟨fb, 13, none⟩ = some (.int .i64 K.dal))
    (first | exact ⟨k7, k13⟩ | exact ⟨HFZ.out.cell k7 (by simpa using NE.out), HFZ.out.cell k13 (by simpa using NE.out)⟩)
    (fail)
  all_goals
    go_wp2_with fail
    go_end0
    exact ⟨rfl, _, _, _, _, _, HZ.out⟩

set_option maxRecDepth 100000 in
set_option maxHeartbeats 4000000 in
theorem x_valoffsetsf_any (h : FX w0 w fb K mb ev sv qs xv v loc s l off rd) (a : Nat) (b : Int) (rest : List UInt8) (hp : l.drop off = uleb a ++ (sleb b ++ rest)) (ha : a < 65536) (hb1 : -1073741824 < b) (hb2 : b < 1073741824) (hw : IntKind.i64.wrap (b * K.dal) = b * K.dal) :
    Calls Tryz.prog 122 #[ptrX fb] w (XPost w0 fb K xv v loc (s.1.put (a : Int) ⟨3, 0, b * K.dal, []⟩, s.2) l (off + (uleb a).length + (sleb b).length)) := by
  have H := Lib.hid h
  have c9 := h.c9
  have P0 : Hid (l.drop (off) = uleb a ++ (sleb b ++ (rest))) := hp
  have P1 : Hid (l.drop (off + (uleb a).length) = sleb b ++ (rest)) := by show _ = _; rw [← List.drop_drop, P0.out]; exact List.drop_left
  obtain ⟨p, hpe⟩ : ∃ p, b * K.dal = p := ⟨_, rfl⟩
  rw [hpe] at hw ⊢
  clear h hp
  go_enter Tryz.func122, Tryz.ntmps122
  go_wp2_with (go_at_call 37; go_must (refine (H.out.readU a (by omega) _ P0.out).mono ?_))
  rintro e w1 ⟨rfl, h1⟩
  have H1 := Lib.hid h1
  have c9_1 := h1.c9
  clear h1
  go_wp2_with (go_at_call 75; go_must (refine (H1.out.readS b (by omega) (by omega) _ P1.out).mono ?_))
  rintro e w2 ⟨rfl, h2⟩
  have H2 := Lib.hid h2
  have c9_2 := h2.c9
  clear h2
  obtain ⟨wz, hrun, hz, hfz⟩ := H2.out.upd ((Fr.refl [] w2).drew) (a : Int) ⟨3, 0, p, []⟩ _ (RulR.mk w2 xv 3 p 0)
  have HZ := Lib.hid hz
  have k7 := H2.out.c7
  have k13 := H2.out.c13
  have NE := Lib.hid H2.out.mb_ne.symm
  have HFZ : Hid (Fr [mb] w2 wz) := ((Fr.refl [mb] w2).drew).trans hfz (fun i h _ => h)
  clear hz hfz
  go_wp2_with fail
  go_region_held3 (fun w' => w'.cell? ⟨fb, 7, none⟩ = some (.map (some mb)) ∧ w'.cell? ⟨fb, 13, none⟩ = some (.int .i64 K.dal))
    (first | exact ⟨k7, k13⟩ | exact ⟨HFZ.out.cell k7 (by simpa using NE.out), HFZ.out.cell k13 (by simpa using NE.out)⟩)
    (fail)
  all_goals
    go_wp2_with fail
    go_end0
    exact ⟨rfl, _, _, _, _, _, HZ.out⟩

set_option maxRecDepth 100000 in
set_option maxHeartbeats 4000000 in
theorem x_advanceloc_any (h : FX w0 w fb K mb ev sv qs xv v loc s l off rd) (x : UInt8) (a : Nat) (rest : List UInt8) (hp : l.drop off = [x] ++ rest) (h6 : bits .and .u8 ((x.toNat : Nat) : Int) 63 = (a : Int)) (ha : a < 64) (hm : loc + K.code * a < 18446744073709551616) :
    Calls Tryz.prog 99 #[ptrX fb] w (XPost w0 fb K xv v (loc + K.code * a) s l (off + 1)) := by
  have H := Lib.hid h
  have c9 := h.c9
  have P0 : Hid (l.drop (off) = x :: (rest)) := hp
  obtain ⟨cd, hcd⟩ : ∃ cd, K.code = cd := ⟨_, rfl⟩
  rw [hcd] at hm ⊢
  obtain ⟨m, hme⟩ : ∃ m, cd * a = m := ⟨_, rfl⟩
  have hm2 : m < 18446744073709551616 := by rw [← hme]; omega
  have e2 : IntKind.u64.wrap ((a : Int) * (cd : Int)) = (m : Int) := by
    rw [show (a : Int) * (cd : Int) = (m : Int) by rw [← hme, Int.mul_comm]; simp]
    simp [IntKind.wrap, IntKind.signed, IntKind.bits]; omega
  rw [hme] at hm ⊢
  obtain ⟨n, hne⟩ : ∃ n, loc + m = n := ⟨_, rfl⟩
  have e3 : IntKind.u64.wrap ((loc : Int) + (m : Int)) = (n : Int) := by rw [← hne]; simp [IntKind.wrap, IntKind.signed, IntKind.bits]; omega
  have e1 : IntKind.u64.wrap (a : Int) = (a : Int) := by simp [IntKind.wrap, IntKind.signed, IntKind.bits]; omega
  rw [hne]
  have Hcd := Lib.hid hcd
  clear hcd hme hne
  clear h hp
  go_enter Tryz.func99, Tryz.ntmps99
  go_wp2_with (go_at_call 73; go_must (refine (H.out.readB x _ P0.out).mono ?_))
  rintro e w1 ⟨rfl, h1⟩
  have H1 := Lib.hid h1
  have c9_1 := h1.c9
  clear h1
  obtain ⟨y, hy⟩ : ∃ y : Int, ((x.toNat : Nat) : Int) = y := ⟨_, rfl⟩
  simp only [vb, hy]
  rw [hy] at h6
  clear hy
  have k0 := H1.out.c0
  have k12 : w1.cell? ⟨fb, 12, none⟩ = some (.int .u64 (cd : Int)) := by rw [← Hcd.out]; exact H1.out.c12
  have z0 : w1.frozen? ⟨fb, 0, none⟩ = false := H1.out.free 0
  go_wp2_with fail
  go_region
  all_goals
    go_wp2_with fail
    go_end0
    exact ⟨rfl, _, _, _, _, _, (H1.out.setLoc n).idle ((Fr.refl [] _).drew)⟩

set_option maxRecDepth 100000 in
set_option maxHeartbeats 4000000 in
theorem x_advanceloc1_any (h : FX w0 w fb K mb ev sv qs xv v loc s l off rd) (x : UInt8) (a : Nat) (rest : List UInt8) (hp : l.drop off = [x] ++ rest) (h6 : ((x.toNat : Nat) : Int) = (a : Int)) (ha : a < 256) (hm : loc + K.code * a < 18446744073709551616) :
    Calls Tryz.prog 103 #[ptrX fb] w (XPost w0 fb K xv v (loc + K.code * a) s l (off + 1)) := by
  have H := Lib.hid h
  have c9 := h.c9
  have P0 : Hid (l.drop (off) = x :: (rest)) := hp
  obtain ⟨cd, hcd⟩ : ∃ cd, K.code = cd := ⟨_, rfl⟩
  rw [hcd] at hm ⊢
  obtain ⟨m, hme⟩ : ∃ m, cd * a = m := ⟨_, rfl⟩
  have hm2 : m < 18446744073709551616 := by rw [← hme]; omega
  have e2 : IntKind.u64.wrap ((a : Int) * (cd : Int)) = (m : Int) := by
    rw [show (a : Int) * (cd : Int) = (m : Int) by rw [← hme, Int.mul_comm]; simp]
    simp [IntKind.wrap, IntKind.signed, IntKind.bits]; omega
  rw [hme] at hm ⊢
  obtain ⟨n, hne⟩ : ∃ n, loc + m = n := ⟨_, rfl⟩
  have e3 : IntKind.u64.wrap ((loc : Int) + (m : Int)) = (n : Int) := by rw [← hne]; simp [IntKind.wrap, IntKind.signed, IntKind.bits]; omega
  have e1 : IntKind.u64.wrap (a : Int) = (a : Int) := by simp [IntKind.wrap, IntKind.signed, IntKind.bits]; omega
  rw [hne]
  have Hcd := Lib.hid hcd
  clear hcd hme hne
  clear h hp
  go_enter Tryz.func103, Tryz.ntmps103
  go_wp2_with (go_at_call 73; go_must (refine (H.out.readB x _ P0.out).mono ?_))
  rintro e w1 ⟨rfl, h1⟩
  have H1 := Lib.hid h1
  have c9_1 := h1.c9
  clear h1
  simp only [vb, h6]
  have k0 := H1.out.c0
  have k12 : w1.cell? ⟨fb, 12, none⟩ = some (.int .u64 (cd : Int)) := by rw [← Hcd.out]; exact H1.out.c12
  have z0 : w1.frozen? ⟨fb, 0, none⟩ = false := H1.out.free 0
  go_wp2_with fail
  go_region
  all_goals
    go_wp2_with fail
    go_end0
    exact ⟨rfl, _, _, _, _, _, (H1.out.setLoc n).idle ((Fr.refl [] _).drew)⟩

set_option maxRecDepth 100000 in
set_option maxHeartbeats 4000000 in
theorem x_offset_any (h : FX w0 w fb K mb ev sv qs xv v loc s l off rd) (x : UInt8) (a b : Nat) (rest : List UInt8) (hp : l.drop off = [x] ++ (uleb b ++ rest)) (h6 : bits .and .u8 ((x.toNat : Nat) : Int) 63 = (a : Int)) (ha : a < 64) (hb : b < 1073741824) (hw : IntKind.i64.wrap ((b : Int) * K.dal) = (b : Int) * K.dal) :
    Calls Tryz.prog 100 #[ptrX fb] w (XPost w0 fb K xv v loc (s.1.put (a : Int) ⟨2, 0, (b : Int) * K.dal, []⟩, s.2) l (off + 1 + (uleb b).length)) := by
  have H := Lib.hid h
  have c9 := h.c9
  have P0 : Hid (l.drop (off) = x :: (uleb b ++ (rest))) := hp
  have P1 : Hid (l.drop (off + 1) = uleb b ++ (rest)) := by show _ = _; rw [← List.drop_drop, P0.out]; exact rfl
  have hwb : IntKind.i64.wrap (b : Int) = (b : Int) := IntWalk.i64_in _ (by omega)
  have e1 : IntKind.u64.wrap (a : Int) = (a : Int) := by simp [IntKind.wrap, IntKind.signed, IntKind.bits]; omega
  obtain ⟨p, hpe⟩ : ∃ p, (b : Int) * K.dal = p := ⟨_, rfl⟩
  rw [hpe] at hw ⊢
  clear h hp
  go_enter Tryz.func100, Tryz.ntmps100
  go_wp2_with (go_at_call 73; go_must (refine (H.out.readB x _ P0.out).mono ?_))
  rintro e w1 ⟨rfl, h1⟩
  obtain ⟨y, hy⟩ : ∃ y : Int, ((x.toNat : Nat) : Int) = y := ⟨_, rfl⟩
  simp only [vb, hy]
  rw [hy] at h6
  clear hy
  have H1 := Lib.hid h1
  have c9_1 := h1.c9
  clear h1
  go_wp2_with (go_at_call 37; go_must (refine (H1.out.readU b (by omega) _ P1.out).mono ?_))
  rintro e w2 ⟨rfl, h2⟩
  have H2 := Lib.hid h2
  have c9_2 := h2.c9
  clear h2
  obtain ⟨wz, hrun, hz, hfz⟩ := H2.out.upd ((Fr.refl [] w2).drew) (a : Int) ⟨2, 0, p, []⟩ _ (RulR.mk w2 xv 2 p 0)
  have HZ := Lib.hid hz
  have k7 := H2.out.c7
  have k13 := H2.out.c13
  have NE := Lib.hid H2.out.mb_ne.symm
  have HFZ : Hid (Fr [mb] w2 wz) := ((Fr.refl [mb] w2).drew).trans hfz (fun i h _ => h)
  clear hz hfz
  go_wp2_with fail
  go_region_held3 (fun w' => w'.cell? ⟨fb, 7, none⟩ = some (.map (some mb)) ∧ w'.cell? ⟨fb, 13, none⟩ = some (.int .i64 K.dal))
    (first | exact ⟨k7, k13⟩ | exact ⟨HFZ.out.cell k7 (by simpa using NE.out), HFZ.out.cell k13 (by simpa using NE.out)⟩)
    (fail)
  all_goals
    go_wp2_with fail
    go_end0
    exact ⟨rfl, _, _, _, _, _, HZ.out⟩

set_option maxRecDepth 100000 in
set_option maxHeartbeats 4000000 in
theorem x_defcfa_any (h : FX w0 w fb K mb ev sv qs xv v loc s l off rd) (a b : Nat) (rest : List UInt8) (hp : l.drop off = uleb a ++ (uleb b ++ rest)) (ha : a < 65536) (hb : b < 1073741824) :
    Calls Tryz.prog 113 #[ptrX fb] w (XPost w0 fb K xv v loc (s.1.setCfa ⟨8, (a : Int), (b : Int), s.1.cfa.expr⟩, s.2) l (off + (uleb a).length + (uleb b).length)) := by
  have H := Lib.hid h
  have c9 := h.c9
  have P0 : Hid (l.drop (off) = uleb a ++ (uleb b ++ (rest))) := hp
  have P1 : Hid (l.drop (off + (uleb a).length) = uleb b ++ (rest)) := by show _ = _; rw [← List.drop_drop, P0.out]; exact List.drop_left
  clear h hp
  go_enter Tryz.func113, Tryz.ntmps113
  go_wp2_with (go_at_call 37; go_must (refine (H.out.readU a (by omega) _ P0.out).mono ?_))
  rintro e w1 ⟨rfl, h1⟩
  have H1 := Lib.hid h1
  have c9_1 := h1.c9
  clear h1
  go_wp2_with (go_at_call 37; go_must (refine (H1.out.readU b (by omega) _ P1.out).mono ?_))
  rintro e w2 ⟨rfl, h2⟩
  have H2 := Lib.hid h2
  have c9_2 := h2.c9
  clear h2
  have z0 := H2.out.free 3
  obtain ⟨o0, k0⟩ : ∃ o, w2.cell? ⟨fb, 3, none⟩ = some o := ⟨_, H2.out.cell 3⟩
  have G0 := Lib.hid (H2.out.setCfa 3 (.int .u8 8) (c := ⟨8, s.1.cfa.reg, s.1.cfa.n, s.1.cfa.expr⟩) (ev' := ev) rfl (H2.out.fo.ex))
  have z1 := G0.out.free 5
  obtain ⟨o1, k1⟩ : ∃ o, (w2.setCell ⟨fb, 3, none⟩ (.int .u8 8)).cell? ⟨fb, 5, none⟩ = some o := ⟨_, G0.out.cell 5⟩
  have G1 := Lib.hid (G0.out.setCfa 5 (.int .u64 (a : Int)) (c := ⟨8, (a : Int), s.1.cfa.n, s.1.cfa.expr⟩) (ev' := ev) rfl (G0.out.fo.ex))
  have z2 := G1.out.free 4
  obtain ⟨o2, k2⟩ : ∃ o, ((w2.setCell ⟨fb, 3, none⟩ (.int .u8 8)).setCell ⟨fb, 5, none⟩ (.int .u64 (a : Int))).cell? ⟨fb, 4, none⟩ = some o := ⟨_, G1.out.cell 4⟩
  have G2 := Lib.hid (G1.out.setCfa 4 (.int .i64 (b : Int)) (c := ⟨8, (a : Int), (b : Int), s.1.cfa.expr⟩) (ev' := ev) rfl (G1.out.fo.ex))
  go_wp2_with fail
  go_end0
  exact ⟨rfl, _, _, _, _, _, G2.out⟩

set_option maxRecDepth 100000 in
set_option maxHeartbeats 4000000 in
theorem x_defcfaregister_any (h : FX w0 w fb K mb ev sv qs xv v loc s l off rd) (a : Nat) (rest : List UInt8) (hp : l.drop off = uleb a ++ rest) (ha : a < 65536) :
    Calls Tryz.prog 114 #[ptrX fb] w (XPost w0 fb K xv v loc (s.1.setCfa { s.1.cfa with reg := (a : Int) }, s.2) l (off + (uleb a).length)) := by
  have H := Lib.hid h
  have c9 := h.c9
  have P0 : Hid (l.drop (off) = uleb a ++ (rest)) := hp
  clear h hp
  go_enter Tryz.func114, Tryz.ntmps114
  go_wp2_with (go_at_call 37; go_must (refine (H.out.readU a (by omega) _ P0.out).mono ?_))
  rintro e w1 ⟨rfl, h1⟩
  have H1 := Lib.hid h1
  have c9_1 := h1.c9
  clear h1
  have z0 := H1.out.free 5
  obtain ⟨o0, k0⟩ : ∃ o, w1.cell? ⟨fb, 5, none⟩ = some o := ⟨_, H1.out.cell 5⟩
  have G0 := Lib.hid (H1.out.setCfa 5 (.int .u64 (a : Int)) (c := { s.1.cfa with reg := (a : Int) }) (ev' := ev) rfl (H1.out.fo.ex))
  go_wp2_with fail
  go_end0
  exact ⟨rfl, _, _, _, _, _, G0.out⟩

set_option maxRecDepth 100000 in
set_option maxHeartbeats 4000000 in
theorem x_defcfaoffset_any (h : FX w0 w fb K mb ev sv qs xv v loc s l off rd) (a : Nat) (rest : List UInt8) (hp : l.drop off = uleb a ++ rest) (ha : a < 1073741824) :
    Calls Tryz.prog 115 #[ptrX fb] w (XPost w0 fb K xv v loc (s.1.setCfa { s.1.cfa with n := (a : Int) }, s.2) l (off + (uleb a).length)) := by
  have H := Lib.hid h
  have c9 := h.c9
  have P0 : Hid (l.drop (off) = uleb a ++ (rest)) := hp
  clear h hp
  go_enter Tryz.func115, Tryz.ntmps115
  go_wp2_with (go_at_call 37; go_must (refine (H.out.readU a (by omega) _ P0.out).mono ?_))
  rintro e w1 ⟨rfl, h1⟩
  have H1 := Lib.hid h1
  have c9_1 := h1.c9
  clear h1
  have z0 := H1.out.free 4
  obtain ⟨o0, k0⟩ : ∃ o, w1.cell? ⟨fb, 4, none⟩ = some o := ⟨_, H1.out.cell 4⟩
  have G0 := Lib.hid (H1.out.setCfa 4 (.int .i64 (a : Int)) (c := { s.1.cfa with n := (a : Int) }) (ev' := ev) rfl (H1.out.fo.ex))
  go_wp2_with fail
  go_end0
  exact ⟨rfl, _, _, _, _, _, G0.out⟩

set_option maxRecDepth 100000 in
set_option maxHeartbeats 4000000 in
theorem x_defcfasf_any (h : FX w0 w fb K mb ev sv qs xv v loc s l off rd) (a : Nat) (b : Int) (rest : List UInt8) (hp : l.drop off = uleb a ++ (sleb b ++ rest)) (ha : a < 65536) (hb1 : -1073741824 < b) (hb2 : b < 1073741824) (hw : IntKind.i64.wrap (b * K.dal) = b * K.dal) :
    Calls Tryz.prog 119 #[ptrX fb] w (XPost w0 fb K xv v loc (s.1.setCfa ⟨8, (a : Int), b * K.dal, s.1.cfa.expr⟩, s.2) l (off + (uleb a).length + (sleb b).length)) := by
  have H := Lib.hid h
  have c9 := h.c9
  have P0 : Hid (l.drop (off) = uleb a ++ (sleb b ++ (rest))) := hp
  have P1 : Hid (l.drop (off + (uleb a).length) = sleb b ++ (rest)) := by show _ = _; rw [← List.drop_drop, P0.out]; exact List.drop_left
  obtain ⟨p, hpe⟩ : ∃ p, b * K.dal = p := ⟨_, rfl⟩
  rw [hpe] at hw ⊢
  clear h hp
  go_enter Tryz.func119, Tryz.ntmps119
  go_wp2_with (go_at_call 37; go_must (refine (H.out.readU a (by omega) _ P0.out).mono ?_))
  rintro e w1 ⟨rfl, h1⟩
  have H1 := Lib.hid h1
  have c9_1 := h1.c9
  clear h1
  go_wp2_with (go_at_call 75; go_must (refine (H1.out.readS b (by omega) (by omega) _ P1.out).mono ?_))
  rintro e w2 ⟨rfl, h2⟩
  have H2 := Lib.hid h2
  have c9_2 := h2.c9
  clear h2
  have z0 := H2.out.free 3
  obtain ⟨o0, k0⟩ : ∃ o, w2.cell? ⟨fb, 3, none⟩ = some o := ⟨_, H2.out.cell 3⟩
  have G0 := Lib.hid (H2.out.setCfa 3 (.int .u8 8) (c := ⟨8, s.1.cfa.reg, s.1.cfa.n, s.1.cfa.expr⟩) (ev' := ev) rfl (H2.out.fo.ex))
  have z1 := G0.out.free 5
  obtain ⟨o1, k1⟩ : ∃ o, (w2.setCell ⟨fb, 3, none⟩ (.int .u8 8)).cell? ⟨fb, 5, none⟩ = some o := ⟨_, G0.out.cell 5⟩
  have G1 := Lib.hid (G0.out.setCfa 5 (.int .u64 (a : Int)) (c := ⟨8, (a : Int), s.1.cfa.n, s.1.cfa.expr⟩) (ev' := ev) rfl (G0.out.fo.ex))
  have z2 := G1.out.free 4
  obtain ⟨o2, k2⟩ : ∃ o, ((w2.setCell ⟨fb, 3, none⟩ (.int .u8 8)).setCell ⟨fb, 5, none⟩ (.int .u64 (a : Int))).cell? ⟨fb, 4, none⟩ = some o := ⟨_, G1.out.cell 4⟩
  have G2 := Lib.hid (G1.out.setCfa 4 (.int .i64 p) (c := ⟨8, (a : Int), p, s.1.cfa.expr⟩) (ev' := ev) rfl (G1.out.fo.ex))
  have k13 := G1.out.c13
  go_wp2_with fail
  go_end0
  exact ⟨rfl, _, _, _, _, _, G2.out⟩

set_option maxRecDepth 100000 in
set_option maxHeartbeats 4000000 in
theorem x_defcfaoffsetsf_any (h : FX w0 w fb K mb ev sv qs xv v loc s l off rd) (b : Int) (rest : List UInt8) (hp : l.drop off = sleb b ++ rest) (hb1 : -1073741824 < b) (hb2 : b < 1073741824) (hw : IntKind.i64.wrap (b * K.dal) = b * K.dal) :
    Calls Tryz.prog 120 #[ptrX fb] w (XPost w0 fb K xv v loc (s.1.setCfa { s.1.cfa with n := b * K.dal }, s.2) l (off + (sleb b).length)) := by
  have H := Lib.hid h
  have c9 := h.c9
  have P0 : Hid (l.drop (off) = sleb b ++ (rest)) := hp
  obtain ⟨p, hpe⟩ : ∃ p, b * K.dal = p := ⟨_, rfl⟩
  rw [hpe] at hw ⊢
  clear h hp
  go_enter Tryz.func120, Tryz.ntmps120
  go_wp2_with (go_at_call 75; go_must (refine (H.out.readS b (by omega) (by omega) _ P0.out).mono ?_))
  rintro e w1 ⟨rfl, h1⟩
  have H1 := Lib.hid h1
  have c9_1 := h1.c9
  clear h1
  have k13 := H1.out.c13
  have z0 := H1.out.free 4
  obtain ⟨o0, k0⟩ : ∃ o, w1.cell? ⟨fb, 4, none⟩ = some o := ⟨_, H1.out.cell 4⟩
  have G0 := Lib.hid (H1.out.setCfa 4 (.int .i64 p) (c := { s.1.cfa with n := p }) (ev' := ev) rfl (H1.out.fo.ex))
  go_wp2_with fail
  go_end0
  exact ⟨rfl, _, _, _, _, _, G0.out⟩

set_option maxRecDepth 100000 in
set_option maxHeartbeats 4000000 in
theorem x_restore_any (h : FX w0 w fb K mb ev sv qs xv v loc s l off rd) (x : UInt8) (a : Nat) (rest : List UInt8) (hp : l.drop off = [x] ++ rest) (h6 : bits .and .u8 ((x.toNat : Nat) : Int) 63 = (a : Int)) (ha : a < 64) :
    Calls Tryz.prog 101 #[ptrX fb] w (XPost w0 fb K xv v loc (s.1.put (a : Int) ⟨0, 0, 0, []⟩, s.2) l (off + 1)) := by
  have H := Lib.hid h
  have c9 := h.c9
  have P0 : Hid (l.drop (off) = x :: (rest)) := hp
  have e1 : IntKind.u64.wrap (a : Int) = (a : Int) := by simp [IntKind.wrap, IntKind.signed, IntKind.bits]; omega
  clear h hp
  go_enter Tryz.func101, Tryz.ntmps101
  go_wp2_with (go_at_call 73; go_must (refine (H.out.readB x _ P0.out).mono ?_))
  rintro e w1 ⟨rfl, h1⟩
  have H1 := Lib.hid h1
  have c9_1 := h1.c9
  clear h1
  obtain ⟨y, hy⟩ : ∃ y : Int, ((x.toNat : Nat) : Int) = y := ⟨_, rfl⟩
  simp only [vb, hy]
  rw [hy] at h6
  clear hy
  have hzz : ∀ w : World, (zeroValue 81).run Tryz.prog w = .ok (.agg #[.int .u8 0, .int .i64 0, .int .u64 0, .slice none 0 0]) w := fun w => by kernel_rfl
  have hlk : (Instr.lookup 82 (.map (some K.ib)) (.int .u64 (a : Int)) true).run Tryz.prog w1 = .ok (.tuple #[.agg #[.int .u8 0, .int .i64 0, .int .u64 0, .slice none 0 0], .bool false]) w1 := by
    have := H1.out.fo.ib.lookup (P := Tryz.prog) Tryz.underlying82 Tryz.underlying23 (a : Int) _ (hzz w1) true
    simpa using this
  have k8 : w1.cell? ⟨fb, 8, none⟩ = some (.map (some K.ib)) := H1.out.cell 8
  obtain ⟨wz, hrun, hz, hfz⟩ := H1.out.upd ((Fr.refl [] w1).alloc (.cells #[.int .u8 0, .int .i64 0, .int .u64 0, .slice none 0 0] 81)) (a : Int) ⟨0, 0, 0, []⟩ _ (RulR.mk w1 xv 0 0 0)
  have HZ := Lib.hid hz
  have k7 : (w1.alloc (.cells #[.int .u8 0, .int .i64 0, .int .u64 0, .slice none 0 0] 81)).cell? ⟨fb, 7, none⟩ = some (.map (some mb)) := ((Fr.refl [] w1).alloc _).cell H1.out.c7 (by simp)
  clear hz hfz hzz
  go_wp2_with fail
  go_end0
  exact ⟨rfl, _, _, _, _, _, HZ.out⟩

set_option maxRecDepth 100000 in
set_option maxHeartbeats 4000000 in
theorem x_restoreextended_any (h : FX w0 w fb K mb ev sv qs xv v loc s l off rd) (a : Nat) (rest : List UInt8) (hp : l.drop off = uleb a ++ rest) (ha : a < 65536) :
    Calls Tryz.prog 107 #[ptrX fb] w (XPost w0 fb K xv v loc (s.1.put (a : Int) ⟨0, 0, 0, []⟩, s.2) l (off + (uleb a).length)) := by
  have H := Lib.hid h
  have c9 := h.c9
  have P0 : Hid (l.drop (off) = uleb a ++ (rest)) := hp
  have e1 : IntKind.u64.wrap (a : Int) = (a : Int) := by simp [IntKind.wrap, IntKind.signed, IntKind.bits]; omega
  clear h hp
  go_enter Tryz.func107, Tryz.ntmps107
  go_wp2_with (go_at_call 37; go_must (refine (H.out.readU a (by omega) _ P0.out).mono ?_))
  rintro e w1 ⟨rfl, h1⟩
  have H1 := Lib.hid h1
  have c9_1 := h1.c9
  clear h1
  have hzz : ∀ w : World, (zeroValue 81).run Tryz.prog w = .ok (.agg #[.int .u8 0, .int .i64 0, .int .u64 0, .slice none 0 0]) w := fun w => by kernel_rfl
  have hlk : (Instr.lookup 82 (.map (some K.ib)) (.int .u64 (a : Int)) true).run Tryz.prog w1 = .ok (.tuple #[.agg #[.int .u8 0, .int .i64 0, .int .u64 0, .slice none 0 0], .bool false]) w1 := by
    have := H1.out.fo.ib.lookup (P := Tryz.prog) Tryz.underlying82 Tryz.underlying23 (a : Int) _ (hzz w1) true
    simpa using this
  have k8 : w1.cell? ⟨fb, 8, none⟩ = some (.map (some K.ib)) := H1.out.cell 8
  obtain ⟨wz, hrun, hz, hfz⟩ := H1.out.upd ((Fr.refl [] w1).alloc (.cells #[.int .u8 0, .int .i64 0, .int .u64 0, .slice none 0 0] 81)) (a : Int) ⟨0, 0, 0, []⟩ _ (RulR.mk w1 xv 0 0 0)
  have HZ := Lib.hid hz
  have k7 : (w1.alloc (.cells #[.int .u8 0, .int .i64 0, .int .u64 0, .slice none 0 0] 81)).cell? ⟨fb, 7, none⟩ = some (.map (some mb)) := ((Fr.refl [] w1).alloc _).cell H1.out.c7 (by simp)
  clear hz hfz hzz
  go_wp2_with fail
  go_end0
  exact ⟨rfl, _, _, _, _, _, HZ.out⟩

set_option maxRecDepth 100000 in
set_option maxHeartbeats 4000000 in
theorem x_expression_any (h : FX w0 w fb K mb ev sv qs v v loc s l off rd) (a : Nat) (d : List UInt8) (rest : List UInt8) (hp : l.drop off = uleb a ++ (uleb d.length ++ (d ++ rest))) (ha : a < 65536) (hd : d.length ≤ 60) (hl : 0 < l.length) :
    Calls Tryz.prog 117 #[ptrX fb] w (XPost w0 fb K v v loc (s.1.put (a : Int) ⟨5, 0, 0, d⟩, s.2) l (off + (uleb a).length + (uleb d.length).length + d.length)) := by
  have H := Lib.hid h
  have c9 := h.c9
  have P0 : Hid (l.drop (off) = uleb a ++ (uleb d.length ++ (d ++ rest))) := hp
  have P1 : Hid (l.drop (off + (uleb a).length) = uleb d.length ++ (d ++ rest)) := by show _ = _; rw [← List.drop_drop, P0.out]; exact List.drop_left
  have PN : Hid (l.drop (off + (uleb a).length + (uleb d.length).length) = d ++ rest) := by show _ = _; rw [← List.drop_drop, P1.out]; exact List.drop_left
  clear h hp
  go_enter Tryz.func117, Tryz.ntmps117
  go_wp2_with (go_at_call 37; go_must (refine (H.out.readU a (by omega) _ P0.out).mono ?_))
  rintro e w1 ⟨rfl, h1⟩
  have H1 := Lib.hid h1
  have c9_1 := h1.c9
  clear h1
  go_wp2_with (go_at_call 37; go_must (refine (H1.out.readU d.length (by omega) _ P1.out).mono ?_))
  rintro e w2 ⟨rfl, h2⟩
  have H2 := Lib.hid h2
  have c9_2 := h2.c9
  clear h2
  have hwl : IntKind.i64.wrap (d.length : Int) = (d.length : Int) := IntWalk.i64_in _ (by omega)
  go_wp2_with (go_at_call 72; go_must (refine (H2.out.next d rest PN.out hl hd).mono ?_))
  rintro e wn ⟨xa, xc, rfl, hxe, hn⟩
  have HN := Lib.hid hn
  have HEX := Lib.hid hxe
  clear hn hxe hwl
  obtain ⟨dn, hdn⟩ : ∃ dn, d.length = dn := ⟨_, rfl⟩
  rw [hdn] at HN HEX ⊢
  have Hdn := Lib.hid hdn
  clear hdn
  obtain ⟨wz, hrun, hz, hfz⟩ := HN.out.upd (Fr.refl [] wn) (a : Int) ⟨5, 0, 0, d⟩ (.agg #[.int .u8 5, .int .i64 0, .int .u64 0, .slice xa dn xc]) ⟨_, rfl, HEX.out⟩
  have HZ := Lib.hid hz
  have k7 := HN.out.c7
  clear hz hfz
  go_wp2_with fail
  go_end0
  have hz := HZ.out
  rw [← Hdn.out] at hz
  exact ⟨rfl, _, _, _, _, _, hz⟩

set_option maxRecDepth 100000 in
set_option maxHeartbeats 4000000 in
theorem x_valexpression_any (h : FX w0 w fb K mb ev sv qs v v loc s l off rd) (a : Nat) (d : List UInt8) (rest : List UInt8) (hp : l.drop off = uleb a ++ (uleb d.length ++ (d ++ rest))) (ha : a < 65536) (hd : d.length ≤ 60) (hl : 0 < l.length) :
    Calls Tryz.prog 123 #[ptrX fb] w (XPost w0 fb K v v loc (s.1.put (a : Int) ⟨6, 0, 0, d⟩, s.2) l (off + (uleb a).length + (uleb d.length).length + d.length)) := by
  have H := Lib.hid h
  have c9 := h.c9
  have P0 : Hid (l.drop (off) = uleb a ++ (uleb d.length ++ (d ++ rest))) := hp
  have P1 : Hid (l.drop (off + (uleb a).length) = uleb d.length ++ (d ++ rest)) := by show _ = _; rw [← List.drop_drop, P0.out]; exact List.drop_left
  have PN : Hid (l.drop (off + (uleb a).length + (uleb d.length).length) = d ++ rest) := by show _ = _; rw [← List.drop_drop, P1.out]; exact List.drop_left
  clear h hp
  go_enter Tryz.func123, Tryz.ntmps123
  go_wp2_with (go_at_call 37; go_must (refine (H.out.readU a (by omega) _ P0.out).mono ?_))
  rintro e w1 ⟨rfl, h1⟩
  have H1 := Lib.hid h1
  have c9_1 := h1.c9
  clear h1
  go_wp2_with (go_at_call 37; go_must (refine (H1.out.readU d.length (by omega) _ P1.out).mono ?_))
  rintro e w2 ⟨rfl, h2⟩
  have H2 := Lib.hid h2
  have c9_2 := h2.c9
  clear h2
  have hwl : IntKind.i64.wrap (d.length : Int) = (d.length : Int) := IntWalk.i64_in _ (by omega)
  go_wp2_with (go_at_call 72; go_must (refine (H2.out.next d rest PN.out hl hd).mono ?_))
  rintro e wn ⟨xa, xc, rfl, hxe, hn⟩
  have HN := Lib.hid hn
  have HEX := Lib.hid hxe
  clear hn hxe hwl
  obtain ⟨dn, hdn⟩ : ∃ dn, d.length = dn := ⟨_, rfl⟩
  rw [hdn] at HN HEX ⊢
  have Hdn := Lib.hid hdn
  clear hdn
  obtain ⟨wz, hrun, hz, hfz⟩ := HN.out.upd (Fr.refl [] wn) (a : Int) ⟨6, 0, 0, d⟩ (.agg #[.int .u8 6, .int .i64 0, .int .u64 0, .slice xa dn xc]) ⟨_, rfl, HEX.out⟩
  have HZ := Lib.hid hz
  have k7 := HN.out.c7
  clear hz hfz
  go_wp2_with fail
  go_end0
  have hz := HZ.out
  rw [← Hdn.out] at hz
  exact ⟨rfl, _, _, _, _, _, hz⟩

set_option maxRecDepth 100000 in
set_option maxHeartbeats 4000000 in
theorem x_defcfaexpression_any (h : FX w0 w fb K mb ev sv qs v v loc s l off rd) (d : List UInt8) (rest : List UInt8) (hp : l.drop off = uleb d.length ++ (d ++ rest)) (hd : d.length ≤ 60) (hl : 0 < l.length) :
    Calls Tryz.prog 116 #[ptrX fb] w (XPost w0 fb K v v loc (s.1.setCfa { s.1.cfa with kind := 5, expr := d }, s.2) l (off + (uleb d.length).length + d.length)) := by
  have H := Lib.hid h
  have c9 := h.c9
  have P0 : Hid (l.drop (off) = uleb d.length ++ (d ++ rest)) := hp
  have PN : Hid (l.drop (off + (uleb d.length).length) = d ++ rest) := by show _ = _; rw [← List.drop_drop, P0.out]; exact List.drop_left
  clear h hp
  go_enter Tryz.func116, Tryz.ntmps116
  go_wp2_with (go_at_call 37; go_must (refine (H.out.readU d.length (by omega) _ P0.out).mono ?_))
  rintro e w1 ⟨rfl, h1⟩
  have H1 := Lib.hid h1
  have c9_1 := h1.c9
  clear h1
  have hwl : IntKind.i64.wrap (d.length : Int) = (d.length : Int) := IntWalk.i64_in _ (by omega)
  go_wp2_with (go_at_call 72; go_must (refine (H1.out.next d rest PN.out hl hd).mono ?_))
  rintro e wn ⟨xa, xc, rfl, hxe, hn⟩
  have HN := Lib.hid hn
  have HEX := Lib.hid hxe
  clear hn hxe hwl
  obtain ⟨dn, hdn⟩ : ∃ dn, d.length = dn := ⟨_, rfl⟩
  rw [hdn] at HN HEX ⊢
  have Hdn := Lib.hid hdn
  clear hdn
  have z0 := HN.out.free 6
  obtain ⟨o0, k0⟩ : ∃ o, wn.cell? ⟨fb, 6, none⟩ = some o := ⟨_, HN.out.cell 6⟩
  have G0 := Lib.hid (HN.out.setCfa 6 (.slice xa dn xc) (c := ⟨s.1.cfa.kind, s.1.cfa.reg, s.1.cfa.n, d⟩) (ev' := (.slice xa dn xc)) rfl (HEX.out))
  have z1 := G0.out.free 3
  obtain ⟨o1, k1⟩ : ∃ o, (wn.setCell ⟨fb, 6, none⟩ (.slice xa dn xc)).cell? ⟨fb, 3, none⟩ = some o := ⟨_, G0.out.cell 3⟩
  have G1 := Lib.hid (G0.out.setCfa 3 (.int .u8 5) (c := ⟨5, s.1.cfa.reg, s.1.cfa.n, d⟩) (ev' := (.slice xa dn xc)) rfl (G0.out.fo.ex))
  go_wp2_with fail
  go_end0
  rw [Hdn.out]
  exact ⟨rfl, _, _, _, _, _, G1.out⟩

set_option maxRecDepth 100000 in
set_option maxHeartbeats 4000000 in
theorem x_advanceloc2_any (h : FX w0 w fb K mb ev sv qs xv v loc s l off rd) (a : Nat) (rest : List UInt8) (hp : l.drop off = leL a 2 ++ rest) (ha : a < 65536) (hord : K.ord = .iface 69 (.agg #[])) (hm : loc + K.code * a < 18446744073709551616) :
    Calls Tryz.prog 104 #[ptrX fb] w (XPost w0 fb K xv v (loc + K.code * a) s l (off + 2)) := by
  have H := Lib.hid h
  have HORD := Lib.hid hord
  have P0 := Lib.hid hp
  obtain ⟨cd, hcd⟩ : ∃ cd, K.code = cd := ⟨_, rfl⟩
  rw [hcd] at hm ⊢
  obtain ⟨m, hme⟩ : ∃ m, cd * a = m := ⟨_, rfl⟩
  have hm2 : m < 18446744073709551616 := by rw [← hme]; omega
  have e2 : IntKind.u64.wrap ((a : Int) * (cd : Int)) = (m : Int) := by
    rw [show (a : Int) * (cd : Int) = (m : Int) by rw [← hme, Int.mul_comm]; simp]
    simp [IntKind.wrap, IntKind.signed, IntKind.bits]; omega
  rw [hme] at hm ⊢
  obtain ⟨n, hne⟩ : ∃ n, loc + m = n := ⟨_, rfl⟩
  have e3 : IntKind.u64.wrap ((loc : Int) + (m : Int)) = (n : Int) := by rw [← hne]; simp [IntKind.wrap, IntKind.signed, IntKind.bits]; omega
  have e1 : IntKind.u64.wrap (a : Int) = (a : Int) := by simp [IntKind.wrap, IntKind.signed, IntKind.bits]; omega
  rw [hne]
  have Hcd := Lib.hid hcd
  clear hcd hme hne
  have k9 : (w.alloc (.cells #[.int .u16 0] 167)).cell? ⟨fb, 9, none⟩ = some (.pointer (some ⟨K.bb, 0, none⟩)) := ((Fr.refl [] w).alloc _).cell h.c9 (by simp)
  have k1 : (w.alloc (.cells #[.int .u16 0] 167)).cell? ⟨fb, 1, none⟩ = some (.iface 69 (.agg #[])) := by rw [← hord]; exact ((Fr.refl [] w).alloc _).cell (h.cell 1) (by simp)
  clear h hp hord
  go_enter Tryz.func104, Tryz.ntmps104
  go_wp2_with fail
  go_region_held3 (fun w' => w'.cell? ⟨fb, 9, none⟩ = some (.pointer (some ⟨K.bb, 0, none⟩)) ∧ w'.cell? ⟨fb, 1, none⟩ = some (.iface 69 (.agg #[])))
    (first | exact ⟨k9, k1⟩ | exact ⟨H2.out.c9, K12.out⟩)
    ((go_at_call 52; go_must (refine (H.out.fix16 HORD.out a (by omega) rest P0.out (Fr.drew ((Fr.refl [] w).alloc _)) (H.out.fr.size) (blk_new w (.cells #[.int .u16 0] 167))).mono ?_); rintro e w2 ⟨rfl, ⟨rd2, h2⟩, hb2⟩; have H2 := Lib.hid h2; have HB2 := Lib.hid hb2; have K12 : Hid (w2.cell? ⟨fb, 1, none⟩ = some (.iface 69 (.agg #[]))) := (by show _ = _; rw [← HORD.out]; exact h2.cell 1); clear h2 hb2))
  all_goals
    have kp : w2.cell? ⟨w.heap.size, 0, none⟩ = some (.int .u16 (a : Int)) := by rw [blk_cell HB2.out]; rfl
    have k0 := H2.out.c0
    have z0 : w2.frozen? ⟨fb, 0, none⟩ = false := H2.out.free 0
    have k12 : w2.cell? ⟨fb, 12, none⟩ = some (.int .u64 (cd : Int)) := by rw [← Hcd.out]; exact H2.out.c12
    go_wp2_with fail
    go_region
    all_goals
      go_wp2_with fail
      go_end0
      exact ⟨rfl, _, _, _, _, _, (H2.out.setLoc n).idle ((Fr.refl [] _).drew)⟩

set_option maxRecDepth 100000 in
set_option maxHeartbeats 4000000 in
theorem x_advanceloc4_any (h : FX w0 w fb K mb ev sv qs xv v loc s l off rd) (a : Nat) (rest : List UInt8) (hp : l.drop off = leL a 4 ++ rest) (ha : a < 4294967296) (hord : K.ord = .iface 69 (.agg #[])) (hm : loc + K.code * a < 18446744073709551616) :
    Calls Tryz.prog 105 #[ptrX fb] w (XPost w0 fb K xv v (loc + K.code * a) s l (off + 4)) := by
  have H := Lib.hid h
  have HORD := Lib.hid hord
  have P0 := Lib.hid hp
  obtain ⟨cd, hcd⟩ : ∃ cd, K.code = cd := ⟨_, rfl⟩
  rw [hcd] at hm ⊢
  obtain ⟨m, hme⟩ : ∃ m, cd * a = m := ⟨_, rfl⟩
  have hm2 : m < 18446744073709551616 := by rw [← hme]; omega
  have e2 : IntKind.u64.wrap ((a : Int) * (cd : Int)) = (m : Int) := by
    rw [show (a : Int) * (cd : Int) = (m : Int) by rw [← hme, Int.mul_comm]; simp]
    simp [IntKind.wrap, IntKind.signed, IntKind.bits]; omega
  rw [hme] at hm ⊢
  obtain ⟨n, hne⟩ : ∃ n, loc + m = n := ⟨_, rfl⟩
  have e3 : IntKind.u64.wrap ((loc : Int) + (m : Int)) = (n : Int) := by rw [← hne]; simp [IntKind.wrap, IntKind.signed, IntKind.bits]; omega
  have e1 : IntKind.u64.wrap (a : Int) = (a : Int) := by simp [IntKind.wrap, IntKind.signed, IntKind.bits]; omega
  rw [hne]
  have Hcd := Lib.hid hcd
  clear hcd hme hne
  have k9 : (w.alloc (.cells #[.int .u32 0] 99)).cell? ⟨fb, 9, none⟩ = some (.pointer (some ⟨K.bb, 0, none⟩)) := ((Fr.refl [] w).alloc _).cell h.c9 (by simp)
  have k1 : (w.alloc (.cells #[.int .u32 0] 99)).cell? ⟨fb, 1, none⟩ = some (.iface 69 (.agg #[])) := by rw [← hord]; exact ((Fr.refl [] w).alloc _).cell (h.cell 1) (by simp)
  clear h hp hord
  go_enter Tryz.func105, Tryz.ntmps105
  go_wp2_with fail
  go_region_held3 (fun w' => w'.cell? ⟨fb, 9, none⟩ = some (.pointer (some ⟨K.bb, 0, none⟩)) ∧ w'.cell? ⟨fb, 1, none⟩ = some (.iface 69 (.agg #[])))
    (first | exact ⟨k9, k1⟩ | exact ⟨H2.out.c9, K12.out⟩)
    ((go_at_call 52; go_must (refine (H.out.fix32 HORD.out a (by omega) rest P0.out (Fr.drew ((Fr.refl [] w).alloc _)) (H.out.fr.size) (blk_new w (.cells #[.int .u32 0] 99))).mono ?_); rintro e w2 ⟨rfl, ⟨rd2, h2⟩, hb2⟩; have H2 := Lib.hid h2; have HB2 := Lib.hid hb2; have K12 : Hid (w2.cell? ⟨fb, 1, none⟩ = some (.iface 69 (.agg #[]))) := (by show _ = _; rw [← HORD.out]; exact h2.cell 1); clear h2 hb2))
  all_goals
    have kp : w2.cell? ⟨w.heap.size, 0, none⟩ = some (.int .u32 (a : Int)) := by rw [blk_cell HB2.out]; rfl
    have k0 := H2.out.c0
    have z0 : w2.frozen? ⟨fb, 0, none⟩ = false := H2.out.free 0
    have k12 : w2.cell? ⟨fb, 12, none⟩ = some (.int .u64 (cd : Int)) := by rw [← Hcd.out]; exact H2.out.c12
    go_wp2_with fail
    go_region
    all_goals
      go_wp2_with fail
      go_end0
      exact ⟨rfl, _, _, _, _, _, (H2.out.setLoc n).idle ((Fr.refl [] _).drew)⟩

set_option maxRecDepth 100000 in
set_option maxHeartbeats 4000000 in
theorem x_setloc_any (h : FX w0 w fb K mb ev sv qs xv v loc s l off rd) (a : Nat) (rest : List UInt8) (hp : l.drop off = leL a 8 ++ rest) (ha : a < 18446744073709551616) (hord : K.ord = .iface 69 (.agg #[])) :
    Calls Tryz.prog 102 #[ptrX fb] w (XPost w0 fb K xv v a s l (off + 8)) := by
  have H := Lib.hid h
  have HORD := Lib.hid hord
  have P0 := Lib.hid hp
  have k9 : (w.alloc (.cells #[.int .u64 0] 23)).cell? ⟨fb, 9, none⟩ = some (.pointer (some ⟨K.bb, 0, none⟩)) := ((Fr.refl [] w).alloc _).cell h.c9 (by simp)
  have k1 : (w.alloc (.cells #[.int .u64 0] 23)).cell? ⟨fb, 1, none⟩ = some (.iface 69 (.agg #[])) := by rw [← hord]; exact ((Fr.refl [] w).alloc _).cell (h.cell 1) (by simp)
  clear h hp hord
  go_enter Tryz.func102, Tryz.ntmps102
  go_wp2_with fail
  go_region_held3 (fun w' => w'.cell? ⟨fb, 9, none⟩ = some (.pointer (some ⟨K.bb, 0, none⟩)) ∧ w'.cell? ⟨fb, 1, none⟩ = some (.iface 69 (.agg #[])))
    (first | exact ⟨k9, k1⟩ | exact ⟨H2.out.c9, K12.out⟩)
    ((go_at_call 52; go_must (refine (H.out.fix64 HORD.out a (by omega) rest P0.out (Fr.drew ((Fr.refl [] w).alloc _)) (H.out.fr.size) (blk_new w (.cells #[.int .u64 0] 23))).mono ?_); rintro e w2 ⟨rfl, ⟨rd2, h2⟩, hb2⟩; have H2 := Lib.hid h2; have HB2 := Lib.hid hb2; have K12 : Hid (w2.cell? ⟨fb, 1, none⟩ = some (.iface 69 (.agg #[]))) := (by show _ = _; rw [← HORD.out]; exact h2.cell 1); clear h2 hb2))
  all_goals
    have kp : w2.cell? ⟨w.heap.size, 0, none⟩ = some (.int .u64 (a : Int)) := by rw [blk_cell HB2.out]; rfl
    have k0 := H2.out.c0
    have z0 : w2.frozen? ⟨fb, 0, none⟩ = false := H2.out.free 0
    obtain ⟨cs, hcb, hc8⟩ := H2.out.fo.cb
    have k10 : w2.cell? ⟨fb, 10, none⟩ = some (.pointer (some ⟨K.cb, 0, none⟩)) := H2.out.cell 10
    have kc : w2.cell? ⟨K.cb, 8, none⟩ = some (.int .u64 0) := by rw [blk_cell hcb]; exact hc8
    have e0 : IntKind.u64.wrap (a : Int) = (a : Int) := by simp [IntKind.wrap, IntKind.signed, IntKind.bits]; omega
    clear hcb hc8
    go_wp2_with fail
    go_region
    all_goals
      go_wp2_with fail
      go_end0
      exact ⟨rfl, _, _, _, _, _, (H2.out.setLoc a).idle ((Fr.refl [] _).drew)⟩
end
end Go.Proofs.YtahohmdfllgedaaGreat

namespace Go.Proofs.YtahohmdfllgedaaGreat
open Go.RowKit Go.MapKept
open Go.ChangeMaps (setBlock)

theorem setBlock_get {w : World} {r : Nat} {o o' : Obj} (h : w.heap[r]? = some o) : (setBlock w r o').heap[r]? = some o' := by
  unfold setBlock
  exact (heap_set h).1
theorem setBlock_fr (w : World) (r : Nat) (o' : Obj) : Fr [r] w (setBlock w r o') := by
  refine ⟨rfl, rfl, rfl, by simp [setBlock], fun k hk hn => ?_⟩
  have hkr : r ≠ k := by simp at hn; exact fun e => hn e.symm
  simp only [setBlock, Array.getElem?_setIfInBounds, if_neg hkr]
theorem run_makeMap_hint {P : Program} (t k e : TypeId) (n : Int) (w : World) (h : P.underlying t = some (.map k e)) : (Instr.makeMap t (some (.int .i64 n))).run P w = .ok (.map (some w.heap.size)) (w.alloc (.map #[] 0)) := by
  simp [Instr.makeMap, run_underlying h, asInt, asIntOf]
theorem iter_ne {w : World} {r b : Nat} {K : IntKind} {f : Int → Option Value} {m : Option Nat} {s : Nat} {seen : Array Nat} {c : Nat} (h1 : w.heap[r]? = some (.mapIter m s seen c)) (h2 : MapIs w b K f) : r ≠ b := by
  obtain ⟨es, cl, h2, _⟩ := h2
  rintro rfl; rw [h1] at h2; simp at h2

set_option maxRecDepth 100000 in
set_option maxHeartbeats 4000000 in
theorem cloneRegs_any (mb : Nat) (m : LMap) (xv : Value) (w : World) (h : MapR w xv mb m) (hx : ∀ g, xv.ownBlock = some g → g < w.heap.size) :
    Calls Tryz.prog 127 #[.map (some mb)] w fun e w' => ∃ nb, e = .returned (.map (some nb)) ∧ w.heap.size ≤ nb ∧ MapR w' xv nb m ∧ Fr [] w w' := by
  have H := Lib.hid h
  have HX := Lib.hid hx
  obtain ⟨f, hm, hk⟩ := h
  have HM := Lib.hid hm
  have HK := Lib.hid hk
  obtain ⟨es, clock, hb, hst, hks, hf⟩ := hm
  have HS := Lib.hid hst
  have HKS := Lib.hid hks
  have HF := Lib.hid hf
  have HB := Lib.hid hb
  have qM : ∀ w : World, (binOp .eql 82 (.map (some mb)) (.map none)).run Tryz.prog w = .ok (.bool false) w := fun _ => by kernel_rfl
  have hln : ∀ ty, (Builtin.len_ #[82] ty #[.map (some mb)]).run Tryz.prog w = .ok (goInt es.size) w := fun ty => run_len_map w 82 ty mb es clock (by kernel_rfl) hb
  have hmk : ∀ (n : Int) (w : World), (Instr.makeMap 82 (some (.int .i64 n))).run Tryz.prog w = .ok (.map (some w.heap.size)) (w.alloc (.map #[] 0)) := fun n w => run_makeMap_hint _ _ _ n w Tryz.underlying82
  have hrg := run_range_map (P := Tryz.prog) (w.alloc (.map #[] 0)) 82 23 81 mb es clock Tryz.underlying82 (blk_alloc hb)
  have hzz : ∀ w : World, (zeroValue 81).run Tryz.prog w = .ok (.agg #[.int .u8 0, .int .i64 0, .int .u64 0, .slice none 0 0]) w := fun w => by kernel_rfl
  simp only [goInt] at hln
  clear hk hb hst hks hf hx
  go_enter Tryz.func127, Tryz.ntmps127
  go_wp2_with fail
  have F0 : Hid (Fr [] w ((w.alloc (.map #[] 0)).alloc (.mapIter (some mb) clock #[] clock))) := ((Fr.refl _ _).alloc _).alloc _
  have hr0 := blk_new (w.alloc (.map #[] 0)) (.mapIter (some mb) clock #[] clock)
  have hn0 : MapIs ((w.alloc (.map #[] 0)).alloc (.mapIter (some mb) clock #[] clock)) w.heap.size .u64 (fun _ => none) := MapIs.empty _ (blk_alloc (blk_new w _))
  have hsz : (w.alloc (.map #[] 0)).heap.size = w.heap.size + 1 := by simp
  rw [hsz] at hr0
  generalize (w.alloc (.map #[] 0)).alloc (.mapIter (some mb) clock #[] clock) = w0 at *
  have HR0 := Lib.hid hr0
  have HN0 := Lib.hid hn0
  clear hr0 hn0 hsz hln hmk hrg
  obtain ⟨nb, hnb⟩ : ∃ nb, w.heap.size = nb := ⟨_, rfl⟩
  obtain ⟨r, hr⟩ : ∃ r, nb + 1 = r := ⟨_, rfl⟩
  rw [hnb] at HR0 HN0
  simp only [hnb]
  rw [hr] at HR0
  simp only [hr]
  have HNB := Lib.hid hnb
  have HRN := Lib.hid hr
  clear hnb hr
  go_loopw [4, 5] (fun _ _ wr => ∃ seen g, wr.heap[r]? = some (.mapIter (some mb) clock seen clock) ∧ MapIs wr nb .u64 g ∧ SeenF es seen .u64 g ∧ Fr [nb, r] w0 wr) (fun _ _ wr => (leftOf es (wr.iterSeen r)).size)
  case atStart => exact ⟨#[], _, HR0.out, HN0.out, SeenF.nil _ _, Fr.refl _ _⟩
  case round =>
    obtain ⟨seen, g, hir, hmg, hsg, hfr⟩ := hrel
    have HIR := Lib.hid hir
    have HMG := Lib.hid hmg
    have HSG := Lib.hid hsg
    have HFR := Lib.hid hfr
    have hmb : mb ∉ [nb, r] := by
      have h1 := H.out.lt; have h2 := HNB.out; have h3 := HRN.out; simp; omega
    have hbr : wr.heap[mb]? = some (.map es clock) := hfr.get (F0.out.get HB.out (by simp)) hmb
    have HBR := Lib.hid hbr
    rcases run_next_at (P := Tryz.prog) wr 0 r mb clock clock seen es clock hir hbr HS.out.1 (Nat.le_refl _) with ⟨h0, hrun⟩ | ⟨x, hxm, w1, hal, hrun⟩
    · have hnx : ∀ ty, (Instr.next (.pointer (some ⟨r, 0, none⟩)) false ty).run Tryz.prog wr = .ok (.tuple #[.bool false]) wr := fun _ => hrun
      have H0 := Lib.hid h0
      clear hir hmg hsg hfr hmb hbr hrun h0
      go_wp2_with fail
      go_ret
      have e : g = f := HSG.out.all H0.out HF.out
      have hF : Fr [] w wr := F0.out.trans HFR.out (fun i hi hlt => by have := HNB.out; have := HRN.out; simp at hi; omega)
      refine ⟨nb, rfl, Nat.le_of_eq HNB.out, ⟨g, HMG.out, fun k => ?_⟩, hF⟩
      rw [e]
      exact (HK.out k).imp id (fun ⟨r, v, a, b, c⟩ => ⟨r, v, a, b, c.fr hF (by simp)⟩)
    · have hxe := (mem_left hxm).1
      obtain ⟨n, hn⟩ := isKey_int (HKS.out x hxe)
      have hfx : f n = some x.val := (HF.out n _).2 ⟨x, hxe, hn, rfl⟩
      obtain ⟨ea, el, ec, rk, rn, rr, hev⟩ : ∃ ea el ec rk rn rr, x.val = .agg #[.int .u8 rk, .int .i64 rn, .int .u64 rr, .slice ea el ec] := by
        rcases HK.out n with ⟨-, h⟩ | ⟨r, v, -, h, ev, h2, h3⟩
        · rw [hfx] at h; cases h
        · rw [hfx] at h; obtain rfl := Option.some.inj h
          obtain ⟨ea, ec, rfl⟩ := sl_form h3.1
          exact ⟨ea, _, ec, _, _, _, h2⟩
      obtain ⟨W1, hW1⟩ : ∃ W1, setBlock w1 r (.mapIter (some mb) clock (seen.push x.born) clock) = W1 := ⟨_, rfl⟩
      have hr1 : w1.heap[r]? = some (.mapIter (some mb) clock seen clock) := by rcases hal with rfl | rfl <;> exact hir
      have hf1 : Fr [r] wr W1 := by
        rw [← hW1]
        have h1 : Fr [r] wr w1 := by rcases hal with rfl | rfl; exact Fr.refl _ _; exact (Fr.refl _ _).drew
        exact h1.trans (setBlock_fr w1 r _) (fun i h _ => h)
      have hrw : W1.heap[r]? = some (.mapIter (some mb) clock (seen.push x.born) clock) := by rw [← hW1]; exact setBlock_get hr1
      have hrm : r ≠ mb := fun e => hmb (by simp [e])
      have hrb : r ≠ nb := iter_ne hir hmg
      have hbw : W1.heap[mb]? = some (.map es clock) := hf1.get hbr (by simpa using hrm.symm)
      rw [hW1, hn, hev] at hrun
      have hnx : ∀ ty, (Instr.next (.pointer (some ⟨r, 0, none⟩)) false ty).run Tryz.prog wr = .ok (.tuple #[.bool true, .int .u64 n, .agg #[.int .u8 rk, .int .i64 rn, .int .u64 rr, .slice ea el ec]]) W1 := fun _ => hrun
      have hen := run_entry_at (P := Tryz.prog) W1 r mb clock seen es clock x hrw hbw hxe HS.out.2.1
      rw [hn, hev] at hen
      have hmg1 : MapIs (W1.alloc (.cells #[.int .u8 rk, .int .i64 rn, .int .u64 rr, .slice ea el ec] 81)) nb .u64 g := (hmg.fr hf1 (by simpa using hrb.symm)).fr ((Fr.refl [] _).alloc _) (by simp)
      obtain ⟨W2, hup, hm2, hf2⟩ := MapIs.update (P := Tryz.prog) hmg1 Tryz.underlying82 Tryz.underlying23 n (.agg #[.int .u8 rk, .int .i64 rn, .int .u64 rr, .slice ea el ec])
      have HF1 := Lib.hid hf1
      have HF2 := Lib.hid hf2
      have HM2 := Lib.hid hm2
      have HRW := Lib.hid hrw
      have HRB := Lib.hid hrb
      have HXM := Lib.hid hxm
      have HN := Lib.hid hn
      have HEV := Lib.hid hev
      clear hir hmg hsg hfr hmb hbr hrun hxm hfx hW1 hr1 hf1 hrw hrm hbw hmg1 hm2 hf2 hal hxe hn hev hrb
      go_wp2_with fail
      go_roundw
      case rel =>
        have hr2 : W2.heap[r]? = some (.mapIter (some mb) clock (seen.push x.born) clock) := HF2.out.get (blk_alloc HRW.out) (by simpa using HRB.out)
        refine ⟨_, _, hr2, HM2.out, ?_, ?_⟩
        · have := HSG.out.push HS.out (mem_left HXM.out).1 HN.out
          rw [HEV.out] at this; exact this
        · exact (HFR.out.trans HF1.out (fun i hi _ => by simp at hi ⊢; exact .inr hi)).trans ((((Fr.refl [nb] W1).alloc _).trans HF2.out (fun i hi _ => hi))) (fun i hi _ => by simp at hi ⊢; exact .inl hi)
      case measure =>
        have hr2 : W2.heap[r]? = some (.mapIter (some mb) clock (seen.push x.born) clock) := HF2.out.get (blk_alloc HRW.out) (by simpa using HRB.out)
        have e1 : W2.iterSeen r = seen.push x.born := by unfold World.iterSeen; rw [hr2]
        have e2 : wr.iterSeen r = seen := by unfold World.iterSeen; rw [HIR.out]
        rw [e1, e2]
        exact left_shrinks es seen x HXM.out
end Go.Proofs.YtahohmdfllgedaaGreat

namespace Go.Proofs.YtahohmdfllgedaaGreat
open Go.RowKit

theorem sliceRS : SliceT Tryz.prog 201 216 (.agg #[.int .u8 0, .int .i64 0, .int .u64 0, .slice none 0 0, .map none]) 5 56 := ⟨Tryz.underlying201, by kernel_rfl, rfl, by decide⟩

set_option maxRecDepth 100000 in
set_option maxHeartbeats 4000000 in
theorem stPush_any (sb base : Nat) (sv : Value) (n : Nat) (cs : List Value) (k rn rr : Int) (ea : Option Addr) (el ec nb : Nat) (w : World) (hst : w.heap[sb]? = some (.cells #[sv] 203 (0, 0))) (hr : w.ownsRow base 216 5 sv n cs) (hn : n ≤ 1000) (hb : base ≤ w.heap.size) :
    Calls Tryz.prog 128 #[.pointer (some ⟨sb, 0, none⟩), .agg #[.int .u8 k, .int .i64 rn, .int .u64 rr, .slice ea el ec, .map (some nb)]] w fun e w' => e = .returned (.tuple #[]) ∧
      ∃ sv', w'.heap[sb]? = some (.cells #[sv'] 203 (0, 0)) ∧ w'.ownsRow base 216 5 sv' (n + 1) (cs ++ [.int .u8 k, .int .i64 rn, .int .u64 rr, .slice ea el ec, .map (some nb)]) ∧ Fr (sb :: sv.ownBlock.toList) w w' := by
  obtain ⟨sa, sc, rfl⟩ := own_slice hr
  have Hst := Lib.hid hst
  have Hr := Lib.hid hr
  have Hb := Lib.hid hb
  have HO : Hid (∀ w', Fr [] w w' → w'.ownsRow base 216 5 (.slice sa n sc) n cs) := fun w' f => own_fr hr f (by simp)
  clear hst hr hb
  go_enter Tryz.func128, Tryz.ntmps128
  go_wp2_with fail
  have hnb := blk_new w (.cells #[.int .u8 k, .int .i64 rn, .int .u64 rr, .slice ea el ec, .map (some nb)] 216)
  have F1 : Hid (Fr [] w (w.alloc (.cells #[.int .u8 k, .int .i64 rn, .int .u64 rr, .slice ea el ec, .map (some nb)] 216))) := (Fr.refl _ _).alloc _
  generalize w.alloc (.cells #[.int .u8 k, .int .i64 rn, .int .u64 rr, .slice ea el ec, .map (some nb)] 216) = w1 at *
  have d0 := blk_cell hnb 0
  have d1 := blk_cell hnb 1
  have d2 := blk_cell hnb 2
  have d3 := blk_cell hnb 3
  have d4 := blk_cell hnb 4
  simp only [List.getElem?_toArray, List.getElem?_cons_zero, List.getElem?_cons_succ] at d0 d1 d2 d3 d4
  have c0 : w1.cell? ⟨sb, 0, none⟩ = some (.slice sa n sc) := F1.out.cell (blk_cell Hst.out 0) (by simp)
  have c0a : ∀ o, (w1.alloc o).cell? ⟨sb, 0, none⟩ = some (.slice sa n sc) := fun o => (F1.out.alloc o).cell (blk_cell Hst.out 0) (by simp)
  clear hnb
  go_region_law ((go_must (refine step_app2 sliceRS _ (by rfl) _ _ (by rfl) base _ n cs (by rfl) (HO.out _ (by first | exact (F1.out.drew.alloc _) | exact (F1.out.alloc _).drew | exact (F1.out.drewN _).alloc _)) (some ⟨_, 0, none⟩) 1 1 [.int .u8 k, .int .i64 rn, .int .u64 rr, .slice ea el ec, .map (some nb)] (by rfl) (by rfl) (fun h => by cases h) (news_blk (blk_new _ _)) (by simp [Value.oneCell']) (by omega) (by decide) (by have := Hb.out; have := F1.out.size; simp; omega) ?_)); intro a5 c5 wA ho5 hf5 hg5; have HO5 := Lib.hid ho5; have HF5 : Hid (Fr (Value.slice sa n sc).ownBlock.toList w wA) := (((F1.out.mono (by simp)).drew.alloc _).trans hf5 (fun i h _ => h)); have HSB : Hid (wA.heap[sb]? = some (.cells #[.slice sa n sc] 203 (0, 0))) := HF5.out.get Hst.out (fun hm => by obtain ⟨cur, hc⟩ := own_cells Hr.out (by simpa using hm); exact cells_ne Hst.out hc (by decide) rfl); have sA : wA.cell? ⟨sb, 0, none⟩ = some (.slice sa n sc) := blk_cell HSB.out 0; have zA : wA.frozen? ⟨sb, 0, none⟩ = false := blk_free HSB.out 0; clear ho5 hf5 hg5)
  all_goals
    go_wp2_with fail
    go_end0
    refine ⟨rfl, .slice a5 (n + 1) c5, one_setCell HSB.out, ?_, ?_⟩
    · exact own_fr HO5.out ((Fr.refl [sb] wA).setCell (.inl (by simp)) _) (fun g hg => by obtain ⟨cur, hc⟩ := own_cells HO5.out hg; simpa using cells_ne hc HSB.out (by decide))
    · exact (HF5.out.mono (bs := sb :: (Value.slice sa n sc).ownBlock.toList) (fun i h _ => by simp at h ⊢; exact .inr h)).setCell (.inl (by simp)) _

theorem own_shrink {w : World} {base e sz n c : Nat} {a : Option Addr} {xs : List Value} (h : w.ownsRow base e sz (.slice a (n + 1) c) (n + 1) xs) : ∃ g, a = some ⟨g, 0, none⟩ ∧ n + 1 ≤ c ∧ c ≤ maxLen ∧ w.ownsRow base e sz (.slice a n c) n (xs.take (n * sz)) := by
  have hl := h.1
  rcases h.2 with ⟨hv, -⟩ | ⟨g, cap, cur, hv, hb, hg, hnc, hcm, hcs, htake⟩
  · simp at hv
  · simp only [Value.slice.injEq] at hv
    obtain ⟨rfl, -, rfl⟩ := hv
    refine ⟨g, rfl, hnc, hcm, ?_, .inr ⟨g, c, cur, rfl, hb, hg, by omega, hcm, hcs, ?_⟩⟩
    · rw [List.length_take, hl, Nat.add_mul]; omega
    · rw [← htake, List.take_take, Nat.add_mul]
      congr 1
      omega

set_option maxRecDepth 100000 in
set_option maxHeartbeats 8000000 in
theorem stPop_some (sb base n sc : Nat) (a : Option Addr) (cs : List Value) (k rn rr : Int) (ea : Option Addr) (el ec nb : Nat) (w : World) (hst : w.heap[sb]? = some (.cells #[.slice a (n + 1) sc] 203 (0, 0))) (hr : w.ownsRow base 216 5 (.slice a (n + 1) sc) (n + 1) cs) (hn : n ≤ 1000)
    (h0 : cs[n * 5]? = some (.int .u8 k)) (h1 : cs[n * 5 + 1]? = some (.int .i64 rn)) (h2 : cs[n * 5 + 2]? = some (.int .u64 rr)) (h3 : cs[n * 5 + 3]? = some (.slice ea el ec)) (h4 : cs[n * 5 + 4]? = some (.map (some nb))) :
    Calls Tryz.prog 129 #[.pointer (some ⟨sb, 0, none⟩)] w fun e w' => e = .returned (.agg #[.int .u8 k, .int .i64 rn, .int .u64 rr, .slice ea el ec, .map (some nb)]) ∧
      w'.heap[sb]? = some (.cells #[.slice a n sc] 203 (0, 0)) ∧ Fr [sb] w w' := by
  obtain ⟨g, rfl, hnc, hcm, -⟩ := own_shrink hr
  unfold maxLen at hcm
  have hc : ∀ i u, cs[i]? = some u → w.cell? ⟨g, i, none⟩ = some u := fun i u hu => by
    have := hr.cells (g := g) rfl i u hu
    rwa [Addr.add_lit, Nat.zero_add] at this
  have hgs : g ≠ sb := by obtain ⟨cur, hcur⟩ := own_cells hr (g := g) rfl; exact cells_ne hcur hst (by decide)
  have Hgs := Lib.hid hgs
  have Hst := Lib.hid hst
  have d0 := hc _ _ h0
  have d1 := hc _ _ h1
  have d2 := hc _ _ h2
  have d3 := hc _ _ h3
  have d4 := hc _ _ h4
  have F0 : Hid (Fr [] w (w.alloc (.cells #[.int .u8 0, .int .i64 0, .int .u64 0, .slice none 0 0, .map none] 216))) := (Fr.refl _ _).alloc _
  have hwm : IntKind.i64.wrap ((n : Int) + 1 - 1) = (n : Int) := by rw [IntWalk.i64_in _ (by omega)]; omega
  clear hst hr hc h0 h1 h2 h3 h4 hgs
  go_enter Tryz.func129, Tryz.ntmps129
  go_wp2_with fail
  have hz0 := blk_new w (.cells #[.int .u8 0, .int .i64 0, .int .u64 0, .slice none 0 0, .map none] 216)
  generalize w.alloc (.cells #[.int .u8 0, .int .i64 0, .int .u64 0, .slice none 0 0, .map none] 216) = w1 at *
  have D : Hid (∀ w', Fr [] w1 w' → w'.cell? ⟨sb, 0, none⟩ = some (.slice (some ⟨g, 0, none⟩) (n + 1) sc) ∧ w'.cell? ⟨g, n * 5, none⟩ = some (.int .u8 k) ∧ w'.cell? ⟨g, n * 5 + 1, none⟩ = some (.int .i64 rn) ∧ w'.cell? ⟨g, n * 5 + 2, none⟩ = some (.int .u64 rr) ∧ w'.cell? ⟨g, n * 5 + 3, none⟩ = some (.slice ea el ec) ∧ w'.cell? ⟨g, n * 5 + 4, none⟩ = some (.map (some nb))) := fun w' f => by
    have q := F0.out.then f
    exact ⟨q.cell (blk_cell Hst.out 0) (by simp), q.cell d0 (by simp), q.cell d1 (by simp), q.cell d2 (by simp), q.cell d3 (by simp), q.cell d4 (by simp)⟩
  have HZ0 := Lib.hid hz0
  clear d0 d1 d2 d3 d4 hz0
  obtain ⟨e0, e1, e2, e3, e4, e5⟩ := D.out w1 (Fr.refl _ _)
  have E : ∀ o, (w1.alloc o).cell? ⟨sb, 0, none⟩ = some (.slice (some ⟨g, 0, none⟩) (n + 1) sc) ∧ (w1.alloc o).cell? ⟨g, n * 5, none⟩ = some (.int .u8 k) ∧ (w1.alloc o).cell? ⟨g, n * 5 + 1, none⟩ = some (.int .i64 rn) ∧ (w1.alloc o).cell? ⟨g, n * 5 + 2, none⟩ = some (.int .u64 rr) ∧ (w1.alloc o).cell? ⟨g, n * 5 + 3, none⟩ = some (.slice ea el ec) ∧ (w1.alloc o).cell? ⟨g, n * 5 + 4, none⟩ = some (.map (some nb)) := fun o => D.out _ ((Fr.refl _ _).alloc _)
  have E0 := fun o => (E o).1
  have E1 := fun o => (E o).2.1
  have E2 := fun o => (E o).2.2.1
  have E3 := fun o => (E o).2.2.2.1
  have E4 := fun o => (E o).2.2.2.2.1
  have E5 := fun o => (E o).2.2.2.2.2
  clear E
  go_region
  all_goals
    have F2 : Hid (Fr [] w1 ((w1.alloc (.cells #[.int .u8 k, .int .i64 rn, .int .u64 rr, .slice ea el ec, .map (some nb)] 216)).drew)) := ((Fr.refl _ _).alloc _).drew
    have hz1 : ((w1.alloc (.cells #[.int .u8 k, .int .i64 rn, .int .u64 rr, .slice ea el ec, .map (some nb)] 216)).drew).heap[w1.heap.size]? = some (.cells #[.int .u8 k, .int .i64 rn, .int .u64 rr, .slice ea el ec, .map (some nb)] 216) := blk_new w1 _
    have hs1 : w.heap.size < w1.heap.size := lt_heap HZ0.out
    generalize (w1.alloc (.cells #[.int .u8 k, .int .i64 rn, .int .u64 rr, .slice ea el ec, .map (some nb)] 216)).drew = w2 at *
    clear e0 e1 e2 e3 e4 e5 E0 E1 E2 E3 E4 E5
    have HST2 : Hid (w2.heap[sb]? = some (.cells #[.slice (some ⟨g, 0, none⟩) (n + 1) sc] 203 (0, 0))) := (F0.out.then F2.out).get Hst.out (by simp)
    have HZ1 := Lib.hid hz1
    have HS1 := Lib.hid hs1
    clear hz1 hs1
    have e0 : w2.cell? ⟨sb, 0, none⟩ = some (.slice (some ⟨g, 0, none⟩) (n + 1) sc) := (D.out w2 F2.out).1
    have z0 : w2.frozen? ⟨sb, 0, none⟩ = false := blk_free HST2.out 0
    go_wp2_with fail
    go_region
    all_goals
      have F3 : Hid (Fr [sb] w2 ((w2.setCell ⟨sb, 0, none⟩ (.slice (some ⟨g, 0, none⟩) n sc)).drew)) := ((Fr.refl [sb] _).setCell (.inl (by simp)) _).drew
      have hst3 : ((w2.setCell ⟨sb, 0, none⟩ (.slice (some ⟨g, 0, none⟩) n sc)).drew).heap[sb]? = some (.cells #[.slice (some ⟨g, 0, none⟩) n sc] 203 (0, 0)) := one_setCell HST2.out
      have hne : sb < w.heap.size := lt_heap Hst.out
      have hy0 : ((w2.setCell ⟨sb, 0, none⟩ (.slice (some ⟨g, 0, none⟩) n sc)).drew).heap[w.heap.size]? = some (.cells #[.int .u8 0, .int .i64 0, .int .u64 0, .slice none 0 0, .map none] 216) := F3.out.get (F2.out.get HZ0.out (by simp)) (by simp; omega)
      have hy1 : ((w2.setCell ⟨sb, 0, none⟩ (.slice (some ⟨g, 0, none⟩) n sc)).drew).heap[w1.heap.size]? = some (.cells #[.int .u8 k, .int .i64 rn, .int .u64 rr, .slice ea el ec, .map (some nb)] 216) := F3.out.get HZ1.out (by have := HS1.out; simp; omega)
      generalize (w2.setCell ⟨sb, 0, none⟩ (.slice (some ⟨g, 0, none⟩) n sc)).drew = w3 at *
      have HST3 := Lib.hid hst3
      have y0 := blk_cell hy1 0
      have y1 := blk_cell hy1 1
      have y2 := blk_cell hy1 2
      have y3 := blk_cell hy1 3
      have y4 := blk_cell hy1 4
      simp only [List.getElem?_toArray, List.getElem?_cons_zero, List.getElem?_cons_succ] at y0 y1 y2 y3 y4
      have hrb : w.heap.size ≠ w1.heap.size := by have := HS1.out; omega
      have Hne := Lib.hid hne
      have HF : Hid (Fr [sb] w w3) := ((F0.out.then F2.out).mono (by simp)).trans F3.out (fun i h _ => h)
      obtain ⟨rb, hrbe⟩ : ∃ rb, w.heap.size = rb := ⟨_, rfl⟩
      have Hrb := Lib.hid hrbe
      simp only [hrbe] at hy0 hrb ⊢
      have x0 := blk_cell hy0 0
      have x1 := blk_cell hy0 1
      have x2 := blk_cell hy0 2
      have x3 := blk_cell hy0 3
      have x4 := blk_cell hy0 4
      simp only [List.getElem?_toArray, List.getElem?_cons_zero, List.getElem?_cons_succ] at x0 x1 x2 x3 x4
      have xz : ∀ i, w3.frozen? ⟨rb, i, none⟩ = false := fun i => blk_free hy0 i
      have HY0 := Lib.hid hy0
      clear e0 z0 hst3 hy0 hy1 hne hrbe
      go_wp2_with fail
      have hle : w.heap.size ≤ rb := Nat.le_of_eq Hrb.out
      have hsr : sb ≠ rb := by have := Hne.out; have := Hrb.out; omega
      refine bodyPost_ret (v := .agg #[.int .u8 k, .int .i64 rn, .int .u64 rr, .slice ea el ec, .map (some nb)]) (by simp [results, Tryz.results129, go_sem, x0, x1, x2, x3, x4]) rfl ?_
      exact ⟨rfl, blk_set_other (blk_set_other (blk_set_other (blk_set_other (blk_set_other HST3.out hsr) hsr) hsr) hsr) hsr, ((((HF.out.setCell (.inr hle) _).setCell (.inr hle) _).setCell (.inr hle) _).setCell (.inr hle) _).setCell (.inr hle) _⟩

theorem bounds_neg' {α : Type} {P : Program} {w : World} (y : Int) (code : BoundsCode) : (boundsPanic .i64 (-1) y code : Sem α).run P w = .halt (.panic (boundsValue P (-1) y true code.toNat)) w := by
  unfold boundsPanic boundsValue
  have e : IntKind.i64.wrap (-1) = -1 := rfl
  simp [runtimePanic, goPanic, go_sem, e]
/-- Behind a panic. -/
def PanP (w : World) (e : Ending) (w' : World) : Prop := (∃ t x, e = .panicked [{ v := .iface t x, recovered := false }]) ∧ Fr [] w w'
set_option maxRecDepth 100000 in
set_option maxHeartbeats 8000000 in
theorem stPop_nil (sb c : Nat) (a : Option Addr) (w : World) (hst : w.heap[sb]? = some (.cells #[.slice a 0 c] 203 (0, 0))) :
    Calls Tryz.prog 129 #[.pointer (some ⟨sb, 0, none⟩)] w (PanP w) := by
  have Hst := Lib.hid hst
  have hnil : a = none → (0 : Nat) = 0 := fun _ => rfl
  have hix : ∀ w, (Instr.indexAt 201 (.slice a 0 c) (.int .i64 (-1))).run Tryz.prog w = .halt (.panic (boundsValue Tryz.prog (-1) 0 true 0)) w := fun w => by
    have h0 : Tryz.prog.underlying 201 = some (.slice (Tryz.prog.elem 201)) := by kernel_rfl
    cases a with
    | some a => rw [run_indexAt_slice (h := h0), if_neg (by omega)]; exact bounds_neg' _ _
    | none =>
      have e : (Instr.indexAt 201 (.slice none 0 c) (.int .i64 (-1))).run Tryz.prog w = (boundsPanic .i64 (-1) 0 .index).run Tryz.prog w := by simp [Instr.indexAt, run_underlying h0, asIntOf]
      rw [e]; exact bounds_neg' _ _
  unfold boundsValue at hix
  have F0 : Hid (Fr [] w (w.alloc (.cells #[.int .u8 0, .int .i64 0, .int .u64 0, .slice none 0 0, .map none] 216))) := (Fr.refl _ _).alloc _
  have hwm : IntKind.i64.wrap (-1) = -1 := rfl
  clear hst
  go_enter Tryz.func129, Tryz.ntmps129
  go_wp2_with fail
  generalize w.alloc (.cells #[.int .u8 0, .int .i64 0, .int .u64 0, .slice none 0 0, .map none] 216) = w1 at *
  have e0 : w1.cell? ⟨sb, 0, none⟩ = some (.slice a 0 c) := F0.out.cell (blk_cell Hst.out 0) (by simp)
  have E0 : ∀ o, (w1.alloc o).cell? ⟨sb, 0, none⟩ = some (.slice a 0 c) := fun o => (F0.out.alloc o).cell (blk_cell Hst.out 0) (by simp)
  have HE0 := Lib.hid E0
  clear E0
  refine wp_region_held_drew (S := (fun w' => w'.cell? ⟨sb, 0, none⟩ = some (.slice a 0 c))) (by kernel_rfl) (by exact e0) (fun hHeld => ?_)
  refine wpAnyH_take (i := 0) (v := ?_) rfl (by kernel_rfl) (by kernel_rfl) (by kernel_rfl) (fun _ _ _ h => h) (Or.inl ⟨by kernel_rfl, ?_⟩) (by assumption) ?_
  rotate_left
  · (intro w hSw; (try dsimp only at hSw); go_simp; try with_reducible rfl)
  (try simp only [Act.put, List.setIfInBounds_toArray, List.set_cons_zero, List.set_cons_succ])
  refine wpAnyH_take (i := 1) (v := ?_) rfl (by kernel_rfl) (by kernel_rfl) (by kernel_rfl) (fun _ _ _ h => h) (Or.inl ⟨by kernel_rfl, ?_⟩) (by assumption) ?_
  rotate_left
  · (intro w hSw; (try dsimp only at hSw); go_simp; try with_reducible rfl)
  (try simp only [Act.put, List.setIfInBounds_toArray, List.set_cons_zero, List.set_cons_succ])
  refine wpAnyH_take (i := 2) (v := ?_) rfl (by kernel_rfl) (by kernel_rfl) (by kernel_rfl) (fun _ _ _ h => h) (Or.inl ⟨by kernel_rfl, ?_⟩) (by assumption) ?_
  rotate_left
  · (intro w hSw; (try dsimp only at hSw); go_simp; try with_reducible rfl)
  (try simp only [Act.put, List.setIfInBounds_toArray, List.set_cons_zero, List.set_cons_succ])
  refine wpAnyH_take (i := 3) (v := ?_) rfl (by kernel_rfl) (by kernel_rfl) (by kernel_rfl) (fun _ _ _ h => h) (Or.inl ⟨by kernel_rfl, ?_⟩) (by assumption) ?_
  rotate_left
  · (intro w hSw; (try dsimp only at hSw); go_simp; try with_reducible rfl)
  (try simp only [Act.put, List.setIfInBounds_toArray, List.set_cons_zero, List.set_cons_succ])
  refine wpAnyH_take (i := 4) (v := ?_) rfl (by kernel_rfl) (by kernel_rfl) (by kernel_rfl) (fun _ _ _ h => h) (Or.inl ⟨by kernel_rfl, ?_⟩) (by assumption) ?_
  rotate_left
  · (intro w hSw; (try dsimp only at hSw); go_simp; try with_reducible rfl)
  (try simp only [Act.put, List.setIfInBounds_toArray, List.set_cons_zero, List.set_cons_succ])
  refine wpAnyH_take (i := 5) (v := ?_) rfl (by kernel_rfl) (by kernel_rfl) (by kernel_rfl) (fun _ _ _ h => h) (Or.inl ⟨by kernel_rfl, ?_⟩) (by assumption) ?_
  rotate_left
  · (intro w hSw; (try dsimp only at hSw); go_simp; try with_reducible rfl)
  (try simp only [Act.put, List.setIfInBounds_toArray, List.set_cons_zero, List.set_cons_succ])
  refine wpAnyH_take (i := 6) (v := ?_) rfl (by kernel_rfl) (by kernel_rfl) (by kernel_rfl) (fun _ _ _ h => h) (Or.inl ⟨by kernel_rfl, ?_⟩) (by assumption) ?_
  rotate_left
  · (intro w hSw; (try dsimp only at hSw); go_simp; try with_reducible rfl)
  (try simp only [Act.put, List.setIfInBounds_toArray, List.set_cons_zero, List.set_cons_succ])
  refine wpAnyH_take (i := 7) (v := ?_) rfl (by kernel_rfl) (by kernel_rfl) (by kernel_rfl) (fun _ _ _ h => h) (Or.inl ⟨by kernel_rfl, ?_⟩) (by assumption) ?_
  rotate_left
  · (intro w hSw; (try dsimp only at hSw); go_simp; try with_reducible rfl)
  (try simp only [Act.put, List.setIfInBounds_toArray, List.set_cons_zero, List.set_cons_succ])
  refine wpAnyH_take (i := 8) (v := ?_) rfl (by kernel_rfl) (by kernel_rfl) (by kernel_rfl) (fun _ _ _ h => h) (Or.inl ⟨by kernel_rfl, ?_⟩) (by assumption) ?_
  rotate_left
  · (intro w hSw; (try dsimp only at hSw); go_simp; try with_reducible rfl)
  (try simp only [Act.put, List.setIfInBounds_toArray, List.set_cons_zero, List.set_cons_succ])
  refine wpAnyH_take (i := 9) (v := ?_) rfl (by kernel_rfl) (by kernel_rfl) (by kernel_rfl) (fun _ _ _ h => h) (Or.inl ⟨by kernel_rfl, ?_⟩) (by assumption) ?_
  rotate_left
  · (intro w hSw; (try dsimp only at hSw); go_simp; try with_reducible rfl)
  (try simp only [Act.put, List.setIfInBounds_toArray, List.set_cons_zero, List.set_cons_succ])
  refine wpAnyH_ready (rs := [10, 12]) (by kernel_rfl) (by simp) ?_
  refine AllReadyH.cons rfl (fun K hK => ?_) (AllReadyH.cons rfl (fun K hK => ?_) AllReadyH.nil)
  · go_simp
    exact ⟨rfl, ⟨_, _, rfl⟩, F0.out.drew⟩
  · go_simp
    refine hK.out _ _ (by exact HE0.out _) (fun hS => ?_)
    (try simp only [Act.put, List.setIfInBounds_toArray, List.set_cons_zero, List.set_cons_succ])
    refine wpAnyH_ready (rs := [10]) (by kernel_rfl) (by simp) ?_
    refine AllReadyH.cons rfl (fun K hK => ?_) AllReadyH.nil
    go_simp
    exact ⟨rfl, ⟨_, _, rfl⟩, F0.out.drew.alloc _⟩
end Go.Proofs.YtahohmdfllgedaaGreat

namespace Go.Proofs.YtahohmdfllgedaaGreat
open Go.RowKit

section
variable {w0 w w' : World} {fb : Nat} {K : FK} {mb : Nat} {ev sv : Value} {qs : List SQ} {xv v : Value} {loc : Nat} {s : LSta} {l : List UInt8} {off : Nat} {rd : Bool}
/-- The stack's header and row have turned. -/
theorem FX.stack (h : FX w0 w fb K mb ev sv qs xv v loc s l off rd) {sv' : Value} {qs' : List SQ} (f : Fr (K.sb :: sv.ownBlock.toList) w w') (hst : w'.heap[K.sb]? = some (.cells #[sv'] 203 (0, 0)))
    (hr : w'.ownsRow w0.heap.size 216 5 sv' qs'.length (sqsCells qs')) (hsq : ∀ q ∈ qs', w0.heap.size ≤ q.2.2 ∧ ExV w' xv q.2.1 q.1.cfa.expr ∧ MapR w' xv q.2.2 q.1.rules) (hnd : (mb :: K.ib :: qs'.map (·.2.2)).Nodup) :
    FX w0 w' fb K mb ev sv' qs' xv v loc (s.1, qs'.map (·.1)) l off rd := by
  have hb : ∀ {k cs t z}, w.heap[k]? = some (.cells cs t z) → t ≠ 203 → t ≠ 216 → k ∉ K.sb :: sv.ownBlock.toList := fun {k cs t z} hk h1 h2 hm => by
    rcases List.mem_cons.1 hm with rfl | hm
    · exact cells_ne hk h.fo.st h1 rfl
    · obtain ⟨cur, hc⟩ := own_cells h.fo.sr (by simpa using hm)
      exact cells_ne hk hc h2 rfl
  have hm : ∀ {k K' g}, MapIs w k K' g → k ∉ K.sb :: sv.ownBlock.toList := fun {k K' g} hk hm => by
    rcases List.mem_cons.1 hm with rfl | hm
    · exact cmap_ne h.fo.st hk rfl
    · obtain ⟨cur, hc⟩ := own_cells h.fo.sr (by simpa using hm)
      exact cmap_ne hc hk rfl
  have hv : ∀ g, v.ownBlock = some g → g ∉ K.sb :: sv.ownBlock.toList := fun g hg => by obtain ⟨cur, hc⟩ := own_cells h.fo.ow hg; exact hb hc (by decide) (by decide)
  have hx : ∀ g, xv.ownBlock = some g → g ∉ K.sb :: sv.ownBlock.toList := fun g hg => hv g (h.fo.xo g hg)
  have hmp : mb ∉ K.sb :: sv.ownBlock.toList := by obtain ⟨g, h1, -⟩ := h.fo.mp; exact hm h1
  obtain ⟨cs, hcb, hc8⟩ := h.fo.cb
  refine ⟨f.get h.fc (hb h.fc (by decide) (by decide)), h.bf.fr f (hb h.bf.1 (by decide) (by decide)) hv, ⟨h.fo.ex.fr f hx, h.fo.mp.fr f hx hmp, h.fo.ib.fr f (hm h.fo.ib), hst, hr, fun q hq => (hsq q hq).2, rfl, hnd,
    ⟨cs, f.get hcb (hb hcb (by decide) (by decide)), hc8⟩, own_fr h.fo.ow f hv, h.fo.xo, h.fo.gm, fun q hq => (hsq q hq).1, h.fo.gs, h.fo.gb⟩, h.fr.trans f (fun i hi hlt => ?_), h.gf⟩
  rcases List.mem_cons.1 hi with rfl | hi
  · have := h.fo.gs; omega
  · have := own_ge h.fo.sr (g := i) (by simpa using hi); omega
theorem FX.rel (h : FX w0 w fb K mb ev sv qs xv v loc s l off rd) {k : Nat} {m : LMap} (hm : MapR w xv k m) : k ∉ K.sb :: sv.ownBlock.toList := fun hmem => by
  obtain ⟨g, hk, -⟩ := hm
  rcases List.mem_cons.1 hmem with rfl | hm
  · exact cmap_ne h.fo.st hk rfl
  · obtain ⟨cur, hc⟩ := own_cells h.fo.sr (by simpa using hm)
    exact cmap_ne hc hk rfl
theorem FX.xrel (h : FX w0 w fb K mb ev sv qs xv v loc s l off rd) : ∀ g, xv.ownBlock = some g → g ∉ K.sb :: sv.ownBlock.toList := fun g hg hmem => by
  obtain ⟨cur, hc⟩ := own_cells h.fo.ow (h.fo.xo g hg)
  rcases List.mem_cons.1 hmem with rfl | hm
  · exact cells_ne hc h.fo.st (by decide) rfl
  · obtain ⟨cur, hc2⟩ := own_cells h.fo.sr (by simpa using hm)
    exact cells_ne hc hc2 (by decide) rfl
/-- The map of rules is another one. -/
theorem FX.setMap (h : FX w0 w fb K mb ev sv qs xv v loc s l off rd) {nb : Nat} {m : LMap} (hm : MapR w xv nb m) (hg : w0.heap.size ≤ nb) (hnd : (nb :: K.ib :: qs.map (·.2.2)).Nodup) :
    FX w0 (w.setCell ⟨fb, 7, none⟩ (.map (some nb))) fb K nb ev sv qs xv v loc (⟨s.1.cfa, m⟩, s.2) l off rd := by
  have hf : Fr [fb] w (w.setCell ⟨fb, 7, none⟩ (.map (some nb))) := (Fr.refl _ _).setCell (.inl (by simp)) _
  have h2 : FO w0 w K nb ev sv qs xv v (⟨s.1.cfa, m⟩, s.2) l := ⟨h.fo.ex, hm, h.fo.ib, h.fo.st, h.fo.sr, h.fo.sq, h.fo.sk, hnd, h.fo.cb, h.fo.ow, h.fo.xo, hg, h.fo.gq, h.fo.gs, h.fo.gb⟩
  exact ⟨blk_set h.fc 7 _, h.bf.fr hf (by simpa using h.buf_ne) (fun g hg => by simpa using h.own_ne g hg), h2.keep hf (fun k hk => by simp at hk; subst hk; exact ⟨_, _, _, h.fc, by decide⟩), h.fr.setCell (.inr (by show w0.heap.size ≤ fb; exact h.gf)) _, h.gf⟩

set_option maxRecDepth 100000 in
set_option maxHeartbeats 8000000 in
theorem x_rememberstate_any (h : FX w0 w fb K mb ev sv qs xv v loc s l off rd) (hlen : s.2.length ≤ 1000) :
    Calls Tryz.prog 111 #[ptrX fb] w (XPost w0 fb K xv v loc (s.1, s.2 ++ [s.1]) l off) := by
  have H := Lib.hid h
  have c7 := h.c7
  have hql : qs.length ≤ 1000 := by have := congrArg List.length h.fo.sk; simp at this; omega
  clear h hlen
  go_enter Tryz.func111, Tryz.ntmps111
  go_wp2_with (go_at_call 127; go_must (refine (cloneRegs_any mb s.1.rules xv w H.out.fo.mp (fun g hg => lt_heap (own_cells H.out.fo.ow (H.out.fo.xo g hg)).choose_spec)).mono ?_))
  rintro e w1 ⟨nb, rfl, hnb, hm1, hf1⟩
  have H1 := Lib.hid (H.out.idle hf1)
  have HM1 := Lib.hid hm1
  have HNB := Lib.hid hnb
  have HF1 := Lib.hid hf1
  obtain ⟨ea, ec, rfl⟩ := sl_form H.out.fo.ex.1
  have k14 : w1.cell? ⟨fb, 14, none⟩ = some (.pointer (some ⟨K.sb, 0, none⟩)) := H1.out.cell 14
  have k3 : w1.cell? ⟨fb, 3, none⟩ = some (.int .u8 s.1.cfa.kind) := H1.out.cell 3
  have k4 : w1.cell? ⟨fb, 4, none⟩ = some (.int .i64 s.1.cfa.n) := H1.out.cell 4
  have k5 : w1.cell? ⟨fb, 5, none⟩ = some (.int .u64 s.1.cfa.reg) := H1.out.cell 5
  have k6 : w1.cell? ⟨fb, 6, none⟩ = some (.slice ea s.1.cfa.expr.length ec) := H1.out.cell 6
  generalize hk1 : s.1.cfa.kind = ck at *
  generalize hk2 : s.1.cfa.n = cn at *
  generalize hk3 : s.1.cfa.reg = cr at *
  generalize hk4 : s.1.cfa.expr.length = cl at *
  have HK1 := Lib.hid hk1
  have HK2 := Lib.hid hk2
  have HK3 := Lib.hid hk3
  have HK4 := Lib.hid hk4
  clear c7 hnb hm1 hf1 hk1 hk2 hk3 hk4
  go_wp2_with fail
  go_region_held3 (fun w' => w'.cell? ⟨fb, 14, none⟩ = some (.pointer (some ⟨K.sb, 0, none⟩)) ∧ w'.cell? ⟨fb, 3, none⟩ = some (.int .u8 ck) ∧ w'.cell? ⟨fb, 4, none⟩ = some (.int .i64 cn) ∧ w'.cell? ⟨fb, 5, none⟩ = some (.int .u64 cr) ∧ w'.cell? ⟨fb, 6, none⟩ = some (.slice ea cl ec))
    (first | exact ⟨k14, k3, k4, k5, k6⟩ | exact ⟨HS2.out.1, HS2.out.2.1, HS2.out.2.2.1, HS2.out.2.2.2.1, HS2.out.2.2.2.2⟩)
    ((go_at_call 128; go_must (refine (stPush_any K.sb w0.heap.size sv qs.length (sqsCells qs) ck cn cr ea cl ec nb _ ((H1.out.idle (Fr.drew (Fr.refl [] w1))).fo.st) ((H1.out.idle (Fr.drew (Fr.refl [] w1))).fo.sr) hql H1.out.fr.size).mono ?_); rintro e w2 ⟨rfl, sv', hst2, hr2, hf2⟩; have HST2 := Lib.hid hst2; have HR2 := Lib.hid hr2; have HF2 : Hid (Fr (K.sb :: sv.ownBlock.toList) w1 w2) := ((Fr.refl _ w1).drew.trans hf2 (fun i h _ => h)); have HS2 : Hid (w2.cell? ⟨fb, 14, none⟩ = some (.pointer (some ⟨K.sb, 0, none⟩)) ∧ w2.cell? ⟨fb, 3, none⟩ = some (.int .u8 ck) ∧ w2.cell? ⟨fb, 4, none⟩ = some (.int .i64 cn) ∧ w2.cell? ⟨fb, 5, none⟩ = some (.int .u64 cr) ∧ w2.cell? ⟨fb, 6, none⟩ = some (.slice ea cl ec)) := (by
      have hn : fb ∉ K.sb :: sv.ownBlock.toList := fun hm => by
        rcases List.mem_cons.1 hm with e | hm
        · exact cells_ne H1.out.fc H1.out.fo.st (by decide) e
        · obtain ⟨cur, hc⟩ := own_cells H1.out.fo.sr (by simpa using hm)
          exact cells_ne H1.out.fc hc (by decide) rfl
      exact ⟨HF2.out.cell k14 hn, HF2.out.cell k3 hn, HF2.out.cell k4 hn, HF2.out.cell k5 hn, HF2.out.cell k6 hn⟩); clear hst2 hr2 hf2))
  all_goals
    go_wp2_with fail
    go_end0
    have hnd := H1.out.fo.nd
    have hlt : ∀ k, k ∈ mb :: K.ib :: qs.map (·.2.2) → k < w.heap.size := fun k hk => by
      simp only [List.mem_cons, List.mem_map] at hk
      rcases hk with rfl | rfl | ⟨q, hq, rfl⟩
      · exact H.out.fo.mp.lt
      · exact H.out.fo.ib.lt
      · exact (H.out.fo.sq q hq).2.lt
    have hE : (qs ++ [((s.1, .slice ea cl ec, nb) : SQ)]).map (·.1) = s.2 ++ [s.1] := by rw [List.map_append, H.out.fo.sk]; rfl
    refine ⟨rfl, mb, .slice ea cl ec, sv', qs ++ [(s.1, .slice ea cl ec, nb)], rd, ?_⟩
    rw [← hE]
    refine FX.stack H1.out HF2.out HST2.out ?_ (fun q hq => ?_) ?_
    · have := HR2.out
      rw [sqsCells_app, List.length_append, show sqsCells [((s.1, .slice ea cl ec, nb) : SQ)] = [.int .u8 ck, .int .i64 cn, .int .u64 cr, .slice ea cl ec, .map (some nb)] by rw [← HK1.out, ← HK2.out, ← HK3.out]; rfl]
      exact this
    · rcases List.mem_append.1 hq with hq | hq
      · have := H1.out.fo.sq q hq
        exact ⟨H1.out.fo.gq q hq, this.1.fr HF2.out H1.out.xrel, this.2.fr HF2.out H1.out.xrel (H1.out.rel this.2)⟩
      · simp at hq; subst hq
        have := H.out.fr.size
        exact ⟨by have := HNB.out; show w0.heap.size ≤ nb; omega, by have := H1.out.fo.ex; rw [HK4.out] at *; exact this.fr HF2.out H1.out.xrel, HM1.out.fr HF2.out H1.out.xrel (H1.out.rel HM1.out)⟩
    · rw [List.map_append]
      have e : mb :: K.ib :: (qs.map (·.2.2) ++ [((s.1, .slice ea cl ec, nb) : SQ)].map (·.2.2)) = (mb :: K.ib :: qs.map (·.2.2)) ++ [nb] := by simp
      rw [e, List.nodup_append]
      refine ⟨hnd, by simp, fun a ha b hb e1 => ?_⟩
      simp at hb
      have := hlt a ha
      have := HNB.out
      omega

theorem nd_pop {a b c : Nat} {l : List Nat} (h : (a :: b :: (l ++ [c])).Nodup) : (c :: b :: l).Nodup := by
  rw [List.nodup_cons, List.nodup_cons, List.nodup_append] at h
  obtain ⟨-, h1, h2, -, h3⟩ := h
  rw [List.nodup_cons, List.nodup_cons]
  refine ⟨fun hm => ?_, fun hm => h1 (by simp [hm]), h2⟩
  rcases List.mem_cons.1 hm with rfl | hm
  · exact h1 (by simp)
  · exact h3 _ hm _ (by simp) rfl
theorem FX.popped {w1 : World} {qs' : List SQ} {q : SQ} {n sc : Nat} {sa : Option Addr} (h : FX w0 w fb K mb ev (.slice sa (n + 1) sc) (qs' ++ [q]) xv v loc s l off rd) (hn : n = qs'.length) (hst1 : w1.heap[K.sb]? = some (.cells #[.slice sa n sc] 203 (0, 0))) (hf1 : Fr [K.sb] w w1) :
    FX w0 w1 fb K mb ev (.slice sa n sc) qs' xv v loc (s.1, qs'.map (·.1)) l off rd ∧ ExV w1 xv q.2.1 q.1.cfa.expr ∧ MapR w1 xv q.2.2 q.1.rules := by
  have hsr := h.fo.sr
  rw [show (qs' ++ [q]).length = n + 1 by simp [hn]] at hsr
  obtain ⟨g, -, -, -, hsr2⟩ := own_shrink hsr
  have htk : (sqsCells (qs' ++ [q])).take (n * 5) = sqsCells qs' := by
    rw [sqsCells_app, hn, ← sqsCells_len qs', List.take_left]
  rw [htk] at hsr2
  have hx : ∀ g, xv.ownBlock = some g → g ∉ [K.sb] := fun g hg hm => h.xrel g hg (by simp at hm; simp [hm])
  have hr : ∀ {k : Nat} {m : LMap}, MapR w xv k m → k ∉ [K.sb] := fun {k m} hk hm => h.rel hk (by simp at hm; simp [hm])
  have hq := h.fo.sq q (by simp)
  refine ⟨FX.stack h (hf1.mono (by simp)) hst1 (own_fr (by rw [← hn]; exact hsr2) hf1 (fun g hg => ?_)) (fun p hp => ?_) ?_, hq.1.fr hf1 hx, hq.2.fr hf1 hx (hr hq.2)⟩
  · obtain ⟨cur, hc⟩ := own_cells hsr2 hg
    simpa using cells_ne hc h.fo.st (by decide)
  · have hq2 := h.fo.sq p (by simp [hp])
    exact ⟨h.fo.gq p (by simp [hp]), hq2.1.fr hf1 hx, hq2.2.fr hf1 hx (hr hq2.2)⟩
  · have := h.fo.nd
    rw [List.map_append] at this
    exact List.Nodup.sublist (by simp) this

set_option maxRecDepth 100000 in
set_option maxHeartbeats 8000000 in
theorem x_restorestate_some (h : FX w0 w fb K mb ev sv qs xv v loc s l off rd) (hlen : s.2.length ≤ 1000) (u : LTab) (hu : s.2.getLast? = some u) :
    Calls Tryz.prog 112 #[ptrX fb] w (XPost w0 fb K xv v loc (u, s.2.dropLast) l off) := by
  have hsk := h.fo.sk
  obtain ⟨qs', q, rfl⟩ : ∃ qs' q, qs = qs' ++ [q] := by
    rcases List.eq_nil_or_concat qs with rfl | ⟨a, b, rfl⟩
    · rw [← hsk] at hu; simp at hu
    · exact ⟨a, b, by simp⟩
  obtain ⟨rfl, hk⟩ : q.1 = u ∧ qs'.map (·.1) = s.2.dropLast := by
    rw [← hsk] at hu ⊢
    rw [List.map_append] at hu ⊢
    simp at hu ⊢
    exact hu
  obtain ⟨hqe, hqm⟩ := h.fo.sq q (by simp)
  have hqg := h.fo.gq q (by simp)
  obtain ⟨ea, ec, hev⟩ := sl_form hqe.1
  obtain ⟨n, hn⟩ : ∃ n, n = qs'.length := ⟨_, rfl⟩
  have hql : n ≤ 1000 := by have := congrArg List.length hsk; simp at this; omega
  have hcells : ∀ j u, (sqCells q)[j]? = some u → (sqsCells (qs' ++ [q]))[n * 5 + j]? = some u := fun j u hu => by
    have hj : j < 5 := by
      rcases Nat.lt_or_ge j 5 with h | h
      · exact h
      · rw [List.getElem?_eq_none (by simp [sqCells]; omega)] at hu; cases hu
    rw [hn, sqsCells_get (qs' ++ [q]) qs'.length j (by simp) hj]
    simpa using hu
  have hsr := h.fo.sr
  rw [show (qs' ++ [q]).length = n + 1 by simp [hn]] at hsr
  obtain ⟨sa, sc, rfl⟩ := own_slice hsr
  have H := Lib.hid h
  have HSR := Lib.hid hsr
  have HK := Lib.hid hk
  have HN := Lib.hid hn
  have HQG := Lib.hid hqg
  have HC := Lib.hid hcells
  have c14 : w.cell? ⟨fb, 14, none⟩ = some (.pointer (some ⟨K.sb, 0, none⟩)) := h.cell 14
  clear h hsr hk hqe hqm hqg hcells hu hsk hn
  obtain ⟨⟨⟨ck, cr, cn, cx⟩, cm⟩, qe, nb⟩ := q
  simp only at hev
  subst hev
  obtain ⟨cl, hcl⟩ : ∃ cl, cx.length = cl := ⟨_, rfl⟩
  rw [hcl] at H HSR HC
  clear hcl
  go_enter Tryz.func112, Tryz.ntmps112
  go_upto_region 1 with (go_at_call 129; go_must (refine (stPop_some K.sb w0.heap.size n sc sa _ ck cn cr ea cl ec nb w H.out.fo.st HSR.out hql (HC.out 0 _ rfl) (HC.out 1 _ rfl) (HC.out 2 _ rfl) (HC.out 3 _ rfl) (HC.out 4 _ rfl)).mono ?_); rintro e w1 ⟨rfl, hst1, hf1⟩; have H1 := Lib.hid (FX.popped H.out HN.out hst1 hf1); clear hst1 hf1)
  have hf2 : Fr [] w1 (w1.alloc (.cells #[.int .u8 ck, .int .i64 cn, .int .u64 cr, .slice ea cl ec, .map (some nb)] 216)) := (Fr.refl _ _).alloc _
  have hb2 := blk_new w1 (.cells #[.int .u8 ck, .int .i64 cn, .int .u64 cr, .slice ea cl ec, .map (some nb)] 216)
  have hfne : w1.heap.size ≠ fb := by have := lt_heap H1.out.1.fc; omega
  generalize w1.alloc (.cells #[.int .u8 ck, .int .i64 cn, .int .u64 cr, .slice ea cl ec, .map (some nb)] 216) = w2 at *
  have H2 := Lib.hid (H1.out.1.idle hf2)
  have HE2 := Lib.hid (H1.out.2.1.fr hf2 (by simp))
  have HM2 := Lib.hid (H1.out.2.2.fr hf2 (by simp) (by simp))
  have k3 := H2.out.cell 3
  have k4 := H2.out.cell 4
  have k5 := H2.out.cell 5
  have k6 := H2.out.cell 6
  have k7 := H2.out.cell 7
  simp only [fcells, List.getElem?_toArray, List.getElem?_cons_zero, List.getElem?_cons_succ] at k3 k4 k5 k6 k7
  have kz : ∀ i, w2.frozen? ⟨fb, i, none⟩ = false := fun i => H2.out.free i
  have y0 := blk_cell hb2 0
  have y1 := blk_cell hb2 1
  have y2 := blk_cell hb2 2
  have y3 := blk_cell hb2 3
  have y4 := blk_cell hb2 4
  simp only [List.getElem?_toArray, List.getElem?_cons_zero, List.getElem?_cons_succ] at y0 y1 y2 y3 y4
  obtain ⟨bx, hbx⟩ : ∃ bx, w1.heap.size = bx := ⟨_, rfl⟩
  simp only [hbx] at hfne y0 y1 y2 y3 y4 ⊢
  have G0 := Lib.hid (H2.out.setCfa 3 (.int .u8 ck) (c := ⟨ck, s.1.cfa.reg, s.1.cfa.n, s.1.cfa.expr⟩) (ev' := ev) rfl H2.out.fo.ex)
  have G1 := Lib.hid (G0.out.setCfa 4 (.int .i64 cn) (c := ⟨ck, s.1.cfa.reg, cn, s.1.cfa.expr⟩) (ev' := ev) rfl G0.out.fo.ex)
  have G2 := Lib.hid (G1.out.setCfa 5 (.int .u64 cr) (c := ⟨ck, cr, cn, s.1.cfa.expr⟩) (ev' := ev) rfl G1.out.fo.ex)
  have hg : ∀ w3, Fr [fb] w2 w3 → FX w0 w3 fb K mb ev (.slice sa n sc) qs' xv v loc (⟨⟨ck, cr, cn, s.1.cfa.expr⟩, s.1.rules⟩, qs'.map (·.1)) l off rd → ExV w3 xv (.slice ea cl ec) cx ∧ MapR w3 xv nb cm := fun w3 f g => by
    have hx : ∀ g, xv.ownBlock = some g → g ∉ [fb] := fun g hg => by simpa using H2.out.own_ne g (H2.out.fo.xo g hg)
    exact ⟨HE2.out.fr f hx, HM2.out.fr f hx (by have := HM2.out.cell_ne H2.out.fc; simpa using this.symm)⟩
  have hG := Lib.hid (hg _ ((((Fr.refl [fb] w2).setCell (.inl (by simp)) _).setCell (.inl (by simp)) _).setCell (.inl (by simp)) _) G2.out)
  have G3 := Lib.hid (G2.out.setCfa 6 (.slice ea cl ec) (c := ⟨ck, cr, cn, cx⟩) (ev' := .slice ea cl ec) rfl hG.out.1)
  have hf3 : Fr [fb] w2 ((((w2.setCell ⟨fb, 3, none⟩ (.int .u8 ck)).setCell ⟨fb, 4, none⟩ (.int .i64 cn)).setCell ⟨fb, 5, none⟩ (.int .u64 cr)).setCell ⟨fb, 6, none⟩ (.slice ea cl ec)) := (((((Fr.refl [fb] w2).setCell (.inl (by simp)) _).setCell (.inl (by simp)) _).setCell (.inl (by simp)) _).setCell (.inl (by simp)) _)
  have G4 := Lib.hid (G3.out.setMap (nb := nb) (m := cm) (HM2.out.fr hf3 (fun g hg => by simpa using H2.out.own_ne g (H2.out.fo.xo g hg)) (by have := HM2.out.cell_ne H2.out.fc; simpa using this.symm)) HQG.out (nd_pop (by have := H.out.fo.nd; rw [List.map_append] at this; exact this)))
  clear hf2 hb2 hg hf3 hbx
  go_wp2_with fail
  go_end0
  rw [← HK.out]
  exact ⟨rfl, _, _, _, _, _, G4.out⟩

set_option maxRecDepth 100000 in
set_option maxHeartbeats 4000000 in
theorem x_restorestate_nil (h : FX w0 w fb K mb ev sv qs xv v loc s l off rd) (hu : s.2.getLast? = none) :
    Calls Tryz.prog 112 #[ptrX fb] w (PanP w0) := by
  have hq : qs = [] := by
    have hsk := h.fo.sk
    rw [List.getLast?_eq_none_iff] at hu
    rw [hu] at hsk
    simpa using hsk
  subst hq
  obtain ⟨sa, sc, rfl⟩ := own_slice h.fo.sr
  have H := Lib.hid h
  have c14 : w.cell? ⟨fb, 14, none⟩ = some (.pointer (some ⟨K.sb, 0, none⟩)) := h.cell 14
  clear h hu
  go_enter Tryz.func112, Tryz.ntmps112
  go_wp2_with (go_at_call 129; go_must (refine (stPop_nil K.sb sc sa w H.out.fo.st).mono ?_))
  rintro e w1 ⟨⟨t, x, rfl⟩, hf⟩
  exact ⟨rfl, ⟨_, _, rfl⟩, H.out.fr.then hf⟩
end
end Go.Proofs.YtahohmdfllgedaaGreat

namespace Go.Proofs.YtahohmdfllgedaaGreat
open Go.RowKit

abbrev fnV (n : Nat) : Value := .func (.func n) #[] #[]
set_option maxHeartbeats 1000000 in
theorem fnl_64 (w : World) : Calls Tryz.prog 98 #[.int .u8 64] w fun e w' => e = .returned (.tuple #[fnV 99, .bool true]) ∧ w = w' := by
  go_enter Tryz.func98, Tryz.ntmps98
  go_wp2_with fail
  go_ret2
  exact ⟨rfl, rfl⟩
set_option maxHeartbeats 1000000 in
theorem fnl_128 (w : World) : Calls Tryz.prog 98 #[.int .u8 128] w fun e w' => e = .returned (.tuple #[fnV 100, .bool true]) ∧ w = w' := by
  go_enter Tryz.func98, Tryz.ntmps98
  go_wp2_with fail
  go_ret2
  exact ⟨rfl, rfl⟩
set_option maxHeartbeats 1000000 in
theorem fnl_192 (w : World) : Calls Tryz.prog 98 #[.int .u8 192] w fun e w' => e = .returned (.tuple #[fnV 101, .bool true]) ∧ w = w' := by
  go_enter Tryz.func98, Tryz.ntmps98
  go_wp2_with fail
  go_ret2
  exact ⟨rfl, rfl⟩
set_option maxHeartbeats 1000000 in
theorem fnl_1 (w : World) : Calls Tryz.prog 98 #[.int .u8 1] w fun e w' => e = .returned (.tuple #[fnV 102, .bool true]) ∧ w = w' := by
  go_enter Tryz.func98, Tryz.ntmps98
  go_wp2_with fail
  go_ret2
  exact ⟨rfl, rfl⟩
set_option maxHeartbeats 1000000 in
theorem fnl_2 (w : World) : Calls Tryz.prog 98 #[.int .u8 2] w fun e w' => e = .returned (.tuple #[fnV 103, .bool true]) ∧ w = w' := by
  go_enter Tryz.func98, Tryz.ntmps98
  go_wp2_with fail
  go_ret2
  exact ⟨rfl, rfl⟩
set_option maxHeartbeats 1000000 in
theorem fnl_3 (w : World) : Calls Tryz.prog 98 #[.int .u8 3] w fun e w' => e = .returned (.tuple #[fnV 104, .bool true]) ∧ w = w' := by
  go_enter Tryz.func98, Tryz.ntmps98
  go_wp2_with fail
  go_ret2
  exact ⟨rfl, rfl⟩
set_option maxHeartbeats 1000000 in
theorem fnl_4 (w : World) : Calls Tryz.prog 98 #[.int .u8 4] w fun e w' => e = .returned (.tuple #[fnV 105, .bool true]) ∧ w = w' := by
  go_enter Tryz.func98, Tryz.ntmps98
  go_wp2_with fail
  go_ret2
  exact ⟨rfl, rfl⟩
set_option maxHeartbeats 1000000 in
theorem fnl_5 (w : World) : Calls Tryz.prog 98 #[.int .u8 5] w fun e w' => e = .returned (.tuple #[fnV 106, .bool true]) ∧ w = w' := by
  go_enter Tryz.func98, Tryz.ntmps98
  go_wp2_with fail
  go_ret2
  exact ⟨rfl, rfl⟩
set_option maxHeartbeats 1000000 in
theorem fnl_6 (w : World) : Calls Tryz.prog 98 #[.int .u8 6] w fun e w' => e = .returned (.tuple #[fnV 107, .bool true]) ∧ w = w' := by
  go_enter Tryz.func98, Tryz.ntmps98
  go_wp2_with fail
  go_ret2
  exact ⟨rfl, rfl⟩
set_option maxHeartbeats 1000000 in
theorem fnl_7 (w : World) : Calls Tryz.prog 98 #[.int .u8 7] w fun e w' => e = .returned (.tuple #[fnV 108, .bool true]) ∧ w = w' := by
  go_enter Tryz.func98, Tryz.ntmps98
  go_wp2_with fail
  go_ret2
  exact ⟨rfl, rfl⟩
set_option maxHeartbeats 1000000 in
theorem fnl_8 (w : World) : Calls Tryz.prog 98 #[.int .u8 8] w fun e w' => e = .returned (.tuple #[fnV 109, .bool true]) ∧ w = w' := by
  go_enter Tryz.func98, Tryz.ntmps98
  go_wp2_with fail
  go_ret2
  exact ⟨rfl, rfl⟩
set_option maxHeartbeats 1000000 in
theorem fnl_9 (w : World) : Calls Tryz.prog 98 #[.int .u8 9] w fun e w' => e = .returned (.tuple #[fnV 110, .bool true]) ∧ w = w' := by
  go_enter Tryz.func98, Tryz.ntmps98
  go_wp2_with fail
  go_ret2
  exact ⟨rfl, rfl⟩
set_option maxHeartbeats 1000000 in
theorem fnl_10 (w : World) : Calls Tryz.prog 98 #[.int .u8 10] w fun e w' => e = .returned (.tuple #[fnV 111, .bool true]) ∧ w = w' := by
  go_enter Tryz.func98, Tryz.ntmps98
  go_wp2_with fail
  go_ret2
  exact ⟨rfl, rfl⟩
set_option maxHeartbeats 1000000 in
theorem fnl_11 (w : World) : Calls Tryz.prog 98 #[.int .u8 11] w fun e w' => e = .returned (.tuple #[fnV 112, .bool true]) ∧ w = w' := by
  go_enter Tryz.func98, Tryz.ntmps98
  go_wp2_with fail
  go_ret2
  exact ⟨rfl, rfl⟩
set_option maxHeartbeats 1000000 in
theorem fnl_12 (w : World) : Calls Tryz.prog 98 #[.int .u8 12] w fun e w' => e = .returned (.tuple #[fnV 113, .bool true]) ∧ w = w' := by
  go_enter Tryz.func98, Tryz.ntmps98
  go_wp2_with fail
  go_ret2
  exact ⟨rfl, rfl⟩
set_option maxHeartbeats 1000000 in
theorem fnl_13 (w : World) : Calls Tryz.prog 98 #[.int .u8 13] w fun e w' => e = .returned (.tuple #[fnV 114, .bool true]) ∧ w = w' := by
  go_enter Tryz.func98, Tryz.ntmps98
  go_wp2_with fail
  go_ret2
  exact ⟨rfl, rfl⟩
set_option maxHeartbeats 1000000 in
theorem fnl_14 (w : World) : Calls Tryz.prog 98 #[.int .u8 14] w fun e w' => e = .returned (.tuple #[fnV 115, .bool true]) ∧ w = w' := by
  go_enter Tryz.func98, Tryz.ntmps98
  go_wp2_with fail
  go_ret2
  exact ⟨rfl, rfl⟩
set_option maxHeartbeats 1000000 in
theorem fnl_15 (w : World) : Calls Tryz.prog 98 #[.int .u8 15] w fun e w' => e = .returned (.tuple #[fnV 116, .bool true]) ∧ w = w' := by
  go_enter Tryz.func98, Tryz.ntmps98
  go_wp2_with fail
  go_ret2
  exact ⟨rfl, rfl⟩
set_option maxHeartbeats 1000000 in
theorem fnl_16 (w : World) : Calls Tryz.prog 98 #[.int .u8 16] w fun e w' => e = .returned (.tuple #[fnV 117, .bool true]) ∧ w = w' := by
  go_enter Tryz.func98, Tryz.ntmps98
  go_wp2_with fail
  go_ret2
  exact ⟨rfl, rfl⟩
set_option maxHeartbeats 1000000 in
theorem fnl_17 (w : World) : Calls Tryz.prog 98 #[.int .u8 17] w fun e w' => e = .returned (.tuple #[fnV 118, .bool true]) ∧ w = w' := by
  go_enter Tryz.func98, Tryz.ntmps98
  go_wp2_with fail
  go_ret2
  exact ⟨rfl, rfl⟩
set_option maxHeartbeats 1000000 in
theorem fnl_18 (w : World) : Calls Tryz.prog 98 #[.int .u8 18] w fun e w' => e = .returned (.tuple #[fnV 119, .bool true]) ∧ w = w' := by
  go_enter Tryz.func98, Tryz.ntmps98
  go_wp2_with fail
  go_ret2
  exact ⟨rfl, rfl⟩
set_option maxHeartbeats 1000000 in
theorem fnl_19 (w : World) : Calls Tryz.prog 98 #[.int .u8 19] w fun e w' => e = .returned (.tuple #[fnV 120, .bool true]) ∧ w = w' := by
  go_enter Tryz.func98, Tryz.ntmps98
  go_wp2_with fail
  go_ret2
  exact ⟨rfl, rfl⟩
set_option maxHeartbeats 1000000 in
theorem fnl_21 (w : World) : Calls Tryz.prog 98 #[.int .u8 21] w fun e w' => e = .returned (.tuple #[fnV 122, .bool true]) ∧ w = w' := by
  go_enter Tryz.func98, Tryz.ntmps98
  go_wp2_with fail
  go_ret2
  exact ⟨rfl, rfl⟩
set_option maxHeartbeats 1000000 in
theorem fnl_22 (w : World) : Calls Tryz.prog 98 #[.int .u8 22] w fun e w' => e = .returned (.tuple #[fnV 123, .bool true]) ∧ w = w' := by
  go_enter Tryz.func98, Tryz.ntmps98
  go_wp2_with fail
  go_ret2
  exact ⟨rfl, rfl⟩

set_option maxRecDepth 100000 in
set_option maxHeartbeats 2000000 in
theorem BufUnread_any (b : Nat) (v : Value) (l : List UInt8) (off : Nat) (w : World) (h : BufR w b v l (off + 1) true) :
    Calls Tryz.prog 97 #[.pointer (some ⟨b, 0, none⟩)] w fun e w' => e = .returned .nilIface ∧ ∃ rd', BufR w' b v l off rd' ∧ Fr [b] w w' := by
  have HB := Lib.hid h
  obtain ⟨hb, hs, hne, ho, hl⟩ := h
  have c1 : w.cell? ⟨b, 1, none⟩ = some (.int .i64 ((off : Int) + 1)) := by rw [blk_cell hb]; simp
  have c2 : w.cell? ⟨b, 2, none⟩ = some (.bool true) := by rw [blk_cell hb]; rfl
  have f1 : w.frozen? ⟨b, 1, none⟩ = false := blk_free hb _
  have f2 : w.frozen? ⟨b, 2, none⟩ = false := blk_free hb _
  have hw : IntKind.i64.wrap ((off : Int) + 1 - 1) = (off : Int) := by rw [IntWalk.i64_in _ (by omega)]; omega
  have Hb := Lib.hid hb
  have Hs := Lib.hid hs
  have Hne := Lib.hid hne
  clear hb hs hne
  go_enter Tryz.func97, Tryz.ntmps97
  go_wp2_with fail
  go_ret
  have hf : Fr [b] w ((w.setCell ⟨b, 2, none⟩ (.bool false)).setCell ⟨b, 1, none⟩ (.int .i64 (off : Int))) := ((Fr.refl [b] w).setCell (.inl (by simp)) _).setCell (.inl (by simp)) _
  refine ⟨rfl, false, ⟨?_, Hs.out.fr hf (fun g hg => by have := Hne.out; intro hm; simp at hm; subst hm; exact this hg), Hne.out, by omega, hl⟩, hf⟩
  have := blk_set (blk_set Hb.out 2 (.bool false)) 1 (.int .i64 (off : Int))
  simpa using this

section
variable {w0 w w' : World} {fb : Nat} {K : FK} {mb : Nat} {ev sv : Value} {qs : List SQ} {xv v : Value} {loc : Nat} {s : LSta} {l : List UInt8} {off : Nat} {rd : Bool}

/-- What lookupFunc is asked for, and what it leaves. -/
structure Look (w0 : World) (fb : Nat) (K : FK) (mb : Nat) (ev sv : Value) (qs : List SQ) (xv v : Value) (loc : Nat) (s : LSta) (l : List UInt8) (off : Nat) (y : UInt8) (n : Nat) (off1 : Nat) (rd1 : Bool) : Prop where
  look : ∀ w, FX w0 w fb K mb ev sv qs xv v loc s l (off + 1) true → Calls Tryz.prog 95 #[.int .u8 ((y.toNat : Nat) : Int), .pointer (some ⟨K.bb, 0, none⟩)] w fun e w' => e = .returned (fnV n) ∧ ∃ rd', FX w0 w' fb K mb ev sv qs xv v loc s l off1 rd'

set_option maxRecDepth 100000 in
set_option maxHeartbeats 2000000 in
theorem look_lo (y : UInt8) (hy : y.toNat < 64) (n : Nat) (hl : ∀ w, Calls Tryz.prog 98 #[.int .u8 ((y.toNat : Nat) : Int)] w fun e w' => e = .returned (.tuple #[fnV n, .bool true]) ∧ w = w') : Look w0 fb K mb ev sv qs xv v loc s l off y n (off + 1) true := by
  refine ⟨fun w h => ?_⟩
  have h0 : bits .and .u8 ((y.toNat : Nat) : Int) 192 = 0 := by
    have : ∀ k : Fin 64, bits .and .u8 ((k.val : Nat) : Int) 192 = 0 := by decide +kernel
    exact this ⟨y.toNat, hy⟩
  obtain ⟨z, hz⟩ : ∃ z : Int, ((y.toNat : Nat) : Int) = z := ⟨_, rfl⟩
  rw [hz] at h0 hl ⊢
  have H := Lib.hid h
  have HL := Lib.hid hl
  clear h hl hz hy
  go_enter Tryz.func95, Tryz.ntmps95
  go_wp2_with (go_at_call 98; go_must (refine (HL.out _).mono ?_); rintro e w' ⟨rfl, rfl⟩)
  go_ret
  exact ⟨rfl, _, H.out⟩

set_option maxRecDepth 100000 in
set_option maxHeartbeats 2000000 in
theorem look_64 (y : UInt8) (a : Nat) (ha : a < 64) (hy : y.toNat = 64 + a) : Look w0 fb K mb ev sv qs xv v loc s l off y 99 off false := by
  refine ⟨fun w h => ?_⟩
  have h0 : bits .and .u8 ((y.toNat : Nat) : Int) 192 = 64 := by
    have : ∀ k : Fin 64, bits .and .u8 (((64 + k.val : Nat)) : Int) 192 = 64 := by decide +kernel
    rw [hy]; exact this ⟨a, ha⟩
  obtain ⟨z, hz⟩ : ∃ z : Int, ((y.toNat : Nat) : Int) = z := ⟨_, rfl⟩
  rw [hz] at h0 ⊢
  have H := Lib.hid h
  clear h hz hy
  go_enter Tryz.func95, Tryz.ntmps95
  go_wp2_with (first | (go_at_call 98; go_must (refine (fnl_64 _).mono ?_); rintro e w' ⟨rfl, rfl⟩) | (go_at_call 97; go_must (refine (BufUnread_any K.bb v l off _ H.out.bf).mono ?_); rintro e w1 ⟨rfl, rd1, hb1, hf1⟩; have H1 := Lib.hid (H.out.call hb1 hf1); clear hb1 hf1))
  go_ret
  exact ⟨rfl, _, H1.out⟩

set_option maxRecDepth 100000 in
set_option maxHeartbeats 2000000 in
theorem look_128 (y : UInt8) (a : Nat) (ha : a < 64) (hy : y.toNat = 128 + a) : Look w0 fb K mb ev sv qs xv v loc s l off y 100 off false := by
  refine ⟨fun w h => ?_⟩
  have h0 : bits .and .u8 ((y.toNat : Nat) : Int) 192 = 128 := by
    have : ∀ k : Fin 64, bits .and .u8 (((128 + k.val : Nat)) : Int) 192 = 128 := by decide +kernel
    rw [hy]; exact this ⟨a, ha⟩
  obtain ⟨z, hz⟩ : ∃ z : Int, ((y.toNat : Nat) : Int) = z := ⟨_, rfl⟩
  rw [hz] at h0 ⊢
  have H := Lib.hid h
  clear h hz hy
  go_enter Tryz.func95, Tryz.ntmps95
  go_wp2_with (first | (go_at_call 98; go_must (refine (fnl_128 _).mono ?_); rintro e w' ⟨rfl, rfl⟩) | (go_at_call 97; go_must (refine (BufUnread_any K.bb v l off _ H.out.bf).mono ?_); rintro e w1 ⟨rfl, rd1, hb1, hf1⟩; have H1 := Lib.hid (H.out.call hb1 hf1); clear hb1 hf1))
  go_ret
  exact ⟨rfl, _, H1.out⟩

set_option maxRecDepth 100000 in
set_option maxHeartbeats 2000000 in
theorem look_192 (y : UInt8) (a : Nat) (ha : a < 64) (hy : y.toNat = 192 + a) : Look w0 fb K mb ev sv qs xv v loc s l off y 101 off false := by
  refine ⟨fun w h => ?_⟩
  have h0 : bits .and .u8 ((y.toNat : Nat) : Int) 192 = 192 := by
    have : ∀ k : Fin 64, bits .and .u8 (((192 + k.val : Nat)) : Int) 192 = 192 := by decide +kernel
    rw [hy]; exact this ⟨a, ha⟩
  obtain ⟨z, hz⟩ : ∃ z : Int, ((y.toNat : Nat) : Int) = z := ⟨_, rfl⟩
  rw [hz] at h0 ⊢
  have H := Lib.hid h
  clear h hz hy
  go_enter Tryz.func95, Tryz.ntmps95
  go_wp2_with (first | (go_at_call 98; go_must (refine (fnl_192 _).mono ?_); rintro e w' ⟨rfl, rfl⟩) | (go_at_call 97; go_must (refine (BufUnread_any K.bb v l off _ H.out.bf).mono ?_); rintro e w1 ⟨rfl, rd1, hb1, hf1⟩; have H1 := Lib.hid (H.out.call hb1 hf1); clear hb1 hf1))
  go_ret
  exact ⟨rfl, _, H1.out⟩

/-- What an instruction leaves: none: it has panicked. -/
def XOut (w0 : World) (fb : Nat) (K : FK) (xv v : Value) (l : List UInt8) (off : Nat) (o : Option (Nat × LSta)) (e : Ending) (w' : World) : Prop :=
  match o with
  | none => PanP w0 e w'
  | some (loc, s) => XPost w0 fb K xv v loc s l off e w'

set_option maxRecDepth 100000 in
set_option maxHeartbeats 2000000 in
theorem exec_core (h : FX w0 w fb K mb ev sv qs xv v loc s l off rd) (y : UInt8) (rest : List UInt8) (hp : l.drop off = y :: rest) (hy : y.toNat ≠ 0) (n : Nat) (off1 : Nat) (rd1 : Bool) (hlook : Look w0 fb K mb ev sv qs xv v loc s l off y n off1 rd1)
    (hcf : ∀ a w, (callFunc n #[a]).run Tryz.prog w = .ok (.enter n #[a]) w) (hq : ∀ w : World, (binOp .eql 204 (fnV n) .nilFunc).run Tryz.prog w = .ok (.bool false) w) (o : Option (Nat × LSta)) (off2 : Nat)
    (hfn : ∀ w' rd', FX w0 w' fb K mb ev sv qs xv v loc s l off1 rd' → Calls Tryz.prog n #[ptrX fb] w' (XOut w0 fb K xv v l off2 o)) : Calls Tryz.prog 86 #[ptrX fb] w (XOut w0 fb K xv v l off2 o) := by
  have H := Lib.hid h
  have P := Lib.hid hp
  have HL := Lib.hid hlook
  have HF := Lib.hid hfn
  have c9 := h.c9
  have c15 : w.cell? ⟨fb, 15, none⟩ = some .nilIface := h.cell 15
  obtain ⟨z, hz⟩ : ∃ z : Int, ((y.toNat : Nat) : Int) = z := ⟨_, rfl⟩
  have hz0 : (z == 0) = false := by rw [beq_eq_false_iff_ne]; omega
  have HZ := Lib.hid hz
  clear h hp hlook hfn hz hy
  go_enter Tryz.func86, Tryz.ntmps86
  go_wp2_with (first | (go_at_call 95; rw [← HZ.out]; go_must (refine (HL.out.look _ H1.out).mono ?_); rintro e w2 ⟨rfl, rd2, h2⟩; have H2 := Lib.hid h2; clear h2) | (go_at_call 73; go_must (refine (H.out.readB y rest P.out).mono ?_); rw [show vb y = .int .u8 z by rw [← HZ.out]]; rintro e w1 ⟨rfl, h1⟩; have H1 := Lib.hid h1; have c9 := h1.c9; clear h1))
  cases o with
  | none =>
    refine (HF.out _ _ H2.out).mono ?_
    rintro e w3 ⟨⟨t, x, rfl⟩, hf⟩
    exact ⟨rfl, ⟨_, _, rfl⟩, hf⟩
  | some p =>
    refine (HF.out _ _ H2.out).mono ?_
    rintro e w3 ⟨rfl, h3⟩
    have H3 := Lib.hid h3
    clear h3
    go_wp2_with fail
    go_end0
    exact ⟨rfl, H3.out⟩
set_option maxRecDepth 100000 in
set_option maxHeartbeats 2000000 in
theorem exec_nop (h : FX w0 w fb K mb ev sv qs xv v loc s l off rd) (rest : List UInt8) (hp : l.drop off = 0 :: rest) : Calls Tryz.prog 86 #[ptrX fb] w (XOut w0 fb K xv v l (off + 1) (some (loc, s))) := by
  have H := Lib.hid h
  have P := Lib.hid hp
  have c9 := h.c9
  have c15 : w.cell? ⟨fb, 15, none⟩ = some .nilIface := h.cell 15
  clear h hp
  go_enter Tryz.func86, Tryz.ntmps86
  go_wp2_with (go_at_call 73; go_must (refine (H.out.readB 0 rest P.out).mono ?_); rw [show vb 0 = .int .u8 0 by rfl]; rintro e w1 ⟨rfl, h1⟩; have H1 := Lib.hid h1; clear h1)
  go_end0
  exact ⟨rfl, _, _, _, _, _, H1.out⟩
end
end Go.Proofs.YtahohmdfllgedaaGreat
