/- laws.alike: an answer's pieces are the reference's. -/
import Derived.Test.YtahohmdfllgedaaCa9
import Derived.Test.YtahohmdfllgedaaCa12
set_option linter.unusedVariables false
set_option linter.unusedSimpArgs false
namespace Go.Proofs.Ytahohmdfllgedaa
open Go.RowKit

theorem ipiece_at {W wr : World} {a : Option Addr} {n c : Nat} {l : List LPiece} (h : RSl 4 (RIP W) W (.slice a n c) l) (f : Fr [] W wr) (k : Nat) (hk : k < l.length) :
    ∃ g o bv, a = some ⟨g, o, none⟩ ∧ wr.cell? ⟨g, o + k * 4, none⟩ = some (vi l[k].kind) ∧ wr.cell? ⟨g, o + k * 4 + 1, none⟩ = some (.int .u64 ((u64of l[k].value : Nat) : Int)) ∧
      wr.cell? ⟨g, o + k * 4 + 2, none⟩ = some (vi l[k].size) ∧ wr.cell? ⟨g, o + k * 4 + 3, none⟩ = some bv ∧
      ((l[k].kind = 2 ∧ l[k].stk = false ∧ Sl W bv (vbs l[k].bytes)) ∨ (¬ (l[k].kind = 2 ∧ l[k].stk = false) ∧ bv = .slice none 0 0)) := by
  obtain ⟨g, o, rfl, hg, hel⟩ := h.elem (by decide) (by omega)
  obtain ⟨vs, hvs, ⟨bv, rfl, hb⟩, hcell⟩ := hel k hk
  exact ⟨g, o, bv, rfl, f.cell (hcell 0 _ rfl) (by simp), f.cell (hcell 1 _ rfl) (by simp), f.cell (hcell 2 _ rfl) (by simp), f.cell (hcell 3 _ rfl) (by simp), hb⟩
theorem spiece_at {W wr : World} {a : Option Addr} {n c : Nat} {l : List LPiece} (h : RSl 5 (RPiece W) W (.slice a n c) l) (f : Fr [] W wr) (k : Nat) (hk : k < l.length) :
    ∃ g o bv, a = some ⟨g, o, none⟩ ∧ wr.cell? ⟨g, o + k * 5, none⟩ = some (vi l[k].kind) ∧ wr.cell? ⟨g, o + k * 5 + 1, none⟩ = some (vi l[k].value) ∧
      wr.cell? ⟨g, o + k * 5 + 2, none⟩ = some (vi l[k].size) ∧ wr.cell? ⟨g, o + k * 5 + 3, none⟩ = some bv ∧ wr.cell? ⟨g, o + k * 5 + 4, none⟩ = some (.bool l[k].stk) ∧ Sl W bv (vbs l[k].bytes) := by
  obtain ⟨g, o, rfl, hg, hel⟩ := h.elem (by decide) (by omega)
  obtain ⟨vs, hvs, ⟨bv, rfl, hb⟩, hcell⟩ := hel k hk
  exact ⟨g, o, bv, rfl, f.cell (hcell 0 _ rfl) (by simp), f.cell (hcell 1 _ rfl) (by simp), f.cell (hcell 2 _ rfl) (by simp), f.cell (hcell 3 _ rfl) (by simp), f.cell (hcell 4 _ rfl) (by simp), hb⟩
theorem u64_wrap_of (v : Int) : IntKind.u64.wrap v = ((u64of v : Nat) : Int) := by
  rw [IntKind.wrap_u64]; unfold u64of; omega

set_option maxRecDepth 100000 in
set_option maxHeartbeats 60000000 in
theorem alike_any (pa pb : Value) (l : List LPiece) (w : World) (ha : RSl 4 (RIP w) w pa l) (hb : RSl 5 (RPiece w) w pb l) (hok : ∀ p ∈ l, PcOk p) :
    Calls Try.prog 31 #[pa, pb] w fun e w' => e = .returned (.bool true) ∧ Fr [] w w' := by
  obtain ⟨aa, ac, rfl, ha1, ha2⟩ := ha.shape
  obtain ⟨ba, bc, rfl, hb1, hb2⟩ := hb.shape
  have Ha := Lib.hid ha
  have Hb := Lib.hid hb
  have Hok := Lib.hid hok
  clear ha hb hok
  go_enter Try.func31, Try.ntmps31
  go_wp2_with fail
  go_loopw [15] (fun i wr => ∃ k : Nat, k ≤ l.length ∧ i = .int .i64 (k : Int) ∧ Fr [] w wr) (fun i _ => l.length - (intOf i).toNat)
  case atStart => exact ⟨0, Nat.zero_le _, rfl, Fr.refl _ _⟩
  case round =>
    obtain ⟨k, hk, rfl, hf⟩ := hrel
    have HF := Lib.hid hf
    clear hf
    by_cases hlt : k < l.length
    · obtain ⟨g, o, bv, rfl, a0, a1, a2, a3, hab⟩ := ipiece_at Ha.out HF.out k hlt
      obtain ⟨g2, o2, bw, rfl, b0, b1, b2, b3, b4, hbb⟩ := spiece_at Hb.out HF.out k hlt
      have hp := Hok.out _ (List.getElem_mem hlt)
      obtain ⟨da, dc, rfl⟩ := sl_form hbb
      generalize l[k] = p at *
      obtain ⟨kind, value, size, bytes, stk⟩ := p
      have b0' : ∀ q, (wr.alloc q).cell? ⟨g2, o2 + k * 5, none⟩ = some (vi kind) := fun q => ((Fr.refl [] wr).alloc q).cell b0 (by simp)
      have b1' : ∀ q, (wr.alloc q).cell? ⟨g2, o2 + k * 5 + 1, none⟩ = some (vi value) := fun q => ((Fr.refl [] wr).alloc q).cell b1 (by simp)
      have b2' : ∀ q, (wr.alloc q).cell? ⟨g2, o2 + k * 5 + 2, none⟩ = some (vi size) := fun q => ((Fr.refl [] wr).alloc q).cell b2 (by simp)
      have b3' : ∀ q, (wr.alloc q).cell? ⟨g2, o2 + k * 5 + 3, none⟩ = some (.slice da bytes.length dc) := fun q => ((Fr.refl [] wr).alloc q).cell b3 (by simp)
      have b4' : ∀ q, (wr.alloc q).cell? ⟨g2, o2 + k * 5 + 4, none⟩ = some (.bool stk) := fun q => ((Fr.refl [] wr).alloc q).cell b4 (by simp)
      simp only at a0 a1 a2 a3 hab hbb
      clear b0 b1 b2 b3 b4
      have hu := u64_wrap_of value
      have hub := u64of_lt value
      have Hp := Lib.hid hp
      have Hbb := Lib.hid (hbb.fr HF.out (by simp))
      clear hp hbb
      by_cases hk2 : kind = 2
      · subst hk2
        by_cases hs0 : size = 0
        · subst hs0
          obtain ⟨um, hum⟩ : ∃ um, u64of value = um := ⟨_, rfl⟩
          rw [hum] at hu a1 hub
          have hbv : ∃ x n c, bv = .slice x n c := by
            rcases hab with ⟨-, -, h⟩ | ⟨-, h⟩
            · obtain ⟨x, c, h⟩ := sl_form h; exact ⟨x, _, c, h⟩
            · exact ⟨_, _, _, h⟩
          obtain ⟨bx, bn, bcp, rfl⟩ := hbv
          clear hum hab
          go_wp2_with fail
          go_roundw
          case rel => exact ⟨k + 1, by omega, by go_num, (HF.out.alloc _).alloc _⟩
          case measure => simp [intOf]; omega
        · have hs1 : (size == 0) = false := by simpa using hs0
          obtain ⟨um, hum⟩ : ∃ um, u64of value = um := ⟨_, rfl⟩
          have Hum := Lib.hid hum
          rw [hum] at hu a1 hub
          have Hs0 := Lib.hid hs0
          rcases hab with ⟨-, hstk, hbv⟩ | ⟨hstk, rfl⟩
          · have hsz := Hp.out.imm rfl hstk
            simp only at hsz hstk
            obtain ⟨x, cx, rfl⟩ : ∃ x cx, bv = .slice (some x) bytes.length cx := by
              rcases hbv with ⟨-, hnil⟩ | ⟨x, c, rfl, -, -, -⟩
              · have : bytes = [] := by simpa using hnil
                rw [this] at hsz; exact absurd hsz Hs0.out
              · exact ⟨x, c, by simp⟩
            have Hbv := Lib.hid (hbv.fr HF.out (by simp))
            clear hbv hum hs0 hsz hstk
            go_upto_region 10 with fail
            have h6 := blk_alloc (x := .cells #[vi 2, vi value, vi size, .slice da bytes.length dc, .bool stk] 114) (blk_new wr (.cells #[vi 2, .int .u64 (um : Int), vi size, .slice (some x) bytes.length cx] 68))
            have h7 := blk_new (wr.alloc (.cells #[vi 2, .int .u64 (um : Int), vi size, .slice (some x) bytes.length cx] 68)) (.cells #[vi 2, vi value, vi size, .slice da bytes.length dc, .bool stk] 114)
            have hf2 := ((Fr.refl [] wr).alloc (.cells #[vi 2, .int .u64 (um : Int), vi size, .slice (some x) bytes.length cx] 68)).alloc (.cells #[vi 2, vi value, vi size, .slice da bytes.length dc, .bool stk] 114)
            simp only [World.size_alloc] at h7
            generalize ((wr.alloc (.cells #[vi 2, .int .u64 (um : Int), vi size, .slice (some x) bytes.length cx] 68)).alloc (.cells #[vi 2, vi value, vi size, .slice da bytes.length dc, .bool stk] 114)) = w2 at *
            have HS : Hid (∀ w', Fr [] w2 w' → w'.cell? ⟨wr.heap.size, 0, none⟩ = some (vi 2) ∧ w'.cell? ⟨wr.heap.size, 1, none⟩ = some (.int .u64 (um : Int)) ∧ w'.cell? ⟨wr.heap.size, 2, none⟩ = some (vi size) ∧ w'.cell? ⟨wr.heap.size, 3, none⟩ = some (.slice (some x) bytes.length cx) ∧ w'.cell? ⟨wr.heap.size + 1, 0, none⟩ = some (vi 2) ∧ w'.cell? ⟨wr.heap.size + 1, 2, none⟩ = some (vi size) ∧ w'.cell? ⟨wr.heap.size + 1, 3, none⟩ = some (.slice da bytes.length dc)) := fun w' f => by
              have k6 := f.get h6 (by simp)
              have k7 := f.get h7 (by simp)
              exact ⟨blk_cell k6 0, blk_cell k6 1, blk_cell k6 2, blk_cell k6 3, blk_cell k7 0, blk_cell k7 2, blk_cell k7 3⟩
            have HF2 := Lib.hid hf2
            clear h6 h7 hf2 b0' b1' b2' b3' b4' a0 a1 a2 a3
            refine wp_region_held_drew (S := (fun w' => w'.cell? ⟨wr.heap.size, 0, none⟩ = some (vi 2) ∧ w'.cell? ⟨wr.heap.size, 1, none⟩ = some (.int .u64 (um : Int)) ∧ w'.cell? ⟨wr.heap.size, 2, none⟩ = some (vi size) ∧ w'.cell? ⟨wr.heap.size, 3, none⟩ = some (.slice (some x) bytes.length cx) ∧ w'.cell? ⟨wr.heap.size + 1, 0, none⟩ = some (vi 2) ∧ w'.cell? ⟨wr.heap.size + 1, 2, none⟩ = some (vi size) ∧ w'.cell? ⟨wr.heap.size + 1, 3, none⟩ = some (.slice da bytes.length dc))) (by kernel_rfl) ?_ (fun hHeld => ?_)
            · (first | exact HS.out _ (Fr.refl [] _) | exact HS.out _ (Fr.refl [] _).drew)
            refine wpAnyH_take (i := 0) (v := ?_) rfl (by kernel_rfl) (by kernel_rfl) (by kernel_rfl) (fun _ _ _ h => h) (Or.inl ⟨by kernel_rfl, ?_⟩) (by assumption) ?_
            rotate_left
            · (intro w hSw; (try dsimp only at hSw); go_simp; try with_reducible rfl)
            (try simp only [Act.put, List.setIfInBounds_toArray, List.set_cons_zero, List.set_cons_succ])
            refine wpAnyH_take (i := 1) (v := ?_) rfl (by kernel_rfl) (by kernel_rfl) (by kernel_rfl) (fun _ _ _ h => h) (Or.inl ⟨by kernel_rfl, ?_⟩) (by assumption) ?_
            rotate_left
            · (intro w hSw; (try dsimp only at hSw); go_simp; try with_reducible rfl)
            (try simp only [Act.put, List.setIfInBounds_toArray, List.set_cons_zero, List.set_cons_succ])
            refine wpAnyH_take (i := 2) (v := ?_) rfl (by kernel_rfl) (by kernel_rfl) (by kernel_rfl) (fun _ _ _ h => h) (Or.inl ⟨by kernel_rfl, ?_⟩) (by assumption) ?_
            rotate_left
            · (intro w hSw; (try dsimp only at hSw); go_simp; try with_reducible rfl)
            (try simp only [Act.put, List.setIfInBounds_toArray, List.set_cons_zero, List.set_cons_succ])
            refine wpAnyH_take (i := 3) (v := ?_) rfl (by kernel_rfl) (by kernel_rfl) (by kernel_rfl) (fun _ _ _ h => h) (Or.inl ⟨by kernel_rfl, ?_⟩) (by assumption) ?_
            rotate_left
            · (intro w hSw; (try dsimp only at hSw); go_simp; try with_reducible rfl)
            (try simp only [Act.put, List.setIfInBounds_toArray, List.set_cons_zero, List.set_cons_succ])
            refine wpAnyH_take (i := 4) (v := ?_) rfl (by kernel_rfl) (by kernel_rfl) (by kernel_rfl) (fun _ _ _ h => h) (Or.inl ⟨by kernel_rfl, ?_⟩) (by assumption) ?_
            rotate_left
            · (intro w hSw; (try dsimp only at hSw); go_simp; try with_reducible rfl)
            (try simp only [Act.put, List.setIfInBounds_toArray, List.set_cons_zero, List.set_cons_succ])
            refine wpAnyH_take (i := 5) (v := ?_) rfl (by kernel_rfl) (by kernel_rfl) (by kernel_rfl) (fun _ _ _ h => h) (Or.inl ⟨by kernel_rfl, ?_⟩) (by assumption) ?_
            rotate_left
            · (intro w hSw; (try dsimp only at hSw); go_simp; try with_reducible rfl)
            (try simp only [Act.put, List.setIfInBounds_toArray, List.set_cons_zero, List.set_cons_succ])
            refine wpAnyH_take (i := 6) (v := ?_) rfl (by kernel_rfl) (by kernel_rfl) (by kernel_rfl) (fun _ _ _ h => h) (Or.inl ⟨by kernel_rfl, ?_⟩) (by assumption) ?_
            rotate_left
            · (intro w hSw; (try dsimp only at hSw); go_simp; try with_reducible rfl)
            (try simp only [Act.put, List.setIfInBounds_toArray, List.set_cons_zero, List.set_cons_succ])
            refine wpAnyH_take (i := 7) (v := ?_) rfl (by kernel_rfl) (by kernel_rfl) (by kernel_rfl) (fun _ _ _ h => h) (Or.inl ⟨by kernel_rfl, ?_⟩) (by assumption) ?_
            rotate_left
            · (intro w hSw; (try dsimp only at hSw); go_simp; try with_reducible rfl)
            (try simp only [Act.put, List.setIfInBounds_toArray, List.set_cons_zero, List.set_cons_succ])
            refine wpAnyH_take (i := 8) (v := ?_) rfl (by kernel_rfl) (by kernel_rfl) (by kernel_rfl) (fun _ _ _ h => h) (Or.inl ⟨by kernel_rfl, ?_⟩) (by assumption) ?_
            rotate_left
            · (intro w hSw; (try dsimp only at hSw); go_simp; try with_reducible rfl)
            (try simp only [Act.put, List.setIfInBounds_toArray, List.set_cons_zero, List.set_cons_succ])
            refine wpAnyH_take (i := 9) (v := ?_) rfl (by kernel_rfl) (by kernel_rfl) (by kernel_rfl) (fun _ _ _ h => h) (Or.inl ⟨by kernel_rfl, ?_⟩) (by assumption) ?_
            rotate_left
            · (intro w hSw; (try dsimp only at hSw); go_simp; try with_reducible rfl)
            (try simp only [Act.put, List.setIfInBounds_toArray, List.set_cons_zero, List.set_cons_succ])
            refine wpAnyH_take (i := 10) (v := ?_) rfl (by kernel_rfl) (by kernel_rfl) (by kernel_rfl) (fun _ _ _ h => h) (Or.inl ⟨by kernel_rfl, ?_⟩) (by assumption) ?_
            rotate_left
            · (intro w hSw; (try dsimp only at hSw); go_simp; try with_reducible rfl)
            (try simp only [Act.put, List.setIfInBounds_toArray, List.set_cons_zero, List.set_cons_succ])
            refine wpAnyH_take (i := 11) (v := ?_) rfl (by kernel_rfl) (by kernel_rfl) (by kernel_rfl) (fun _ _ _ h => h) (Or.inl ⟨by kernel_rfl, ?_⟩) (by assumption) ?_
            rotate_left
            · (intro w hSw; (try dsimp only at hSw); go_simp; try with_reducible rfl)
            (try simp only [Act.put, List.setIfInBounds_toArray, List.set_cons_zero, List.set_cons_succ])
            refine wpAnyH_take (i := 12) (v := ?_) rfl (by kernel_rfl) (by kernel_rfl) (by kernel_rfl) (fun _ _ _ h => h) (Or.inl ⟨by kernel_rfl, ?_⟩) (by assumption) ?_
            rotate_left
            · (intro w hSw; (try dsimp only at hSw); go_simp; try with_reducible rfl)
            (try simp only [Act.put, List.setIfInBounds_toArray, List.set_cons_zero, List.set_cons_succ])
            refine wpAnyH_take (i := 13) (v := ?_) rfl (by kernel_rfl) (by kernel_rfl) (by kernel_rfl) (fun _ _ _ h => h) (Or.inl ⟨by kernel_rfl, ?_⟩) (by assumption) ?_
            rotate_left
            · (intro w hSw; (try dsimp only at hSw); go_simp; try with_reducible rfl)
            (try simp only [Act.put, List.setIfInBounds_toArray, List.set_cons_zero, List.set_cons_succ])
            refine wpAnyH_take (i := 14) (v := ?_) rfl (by kernel_rfl) (by kernel_rfl) (by kernel_rfl) (fun _ _ _ h => h) (Or.inl ⟨by kernel_rfl, ?_⟩) (by assumption) ?_
            rotate_left
            · (intro w hSw; (try dsimp only at hSw); go_simp; try with_reducible rfl)
            (try simp only [Act.put, List.setIfInBounds_toArray, List.set_cons_zero, List.set_cons_succ])
            refine wpAnyH_take (i := 15) (v := ?_) rfl (by kernel_rfl) (by kernel_rfl) (by kernel_rfl) (fun _ _ _ h => h) (Or.inl ⟨by kernel_rfl, ?_⟩) (by assumption) ?_
            rotate_left
            · (intro w hSw; (try dsimp only at hSw); go_simp; try with_reducible rfl)
            (try simp only [Act.put, List.setIfInBounds_toArray, List.set_cons_zero, List.set_cons_succ])
            refine wpAnyH_take (i := 16) (v := ?_) rfl (by kernel_rfl) (by kernel_rfl) (by kernel_rfl) (fun _ _ _ h => h) (Or.inl ⟨by kernel_rfl, ?_⟩) (by assumption) ?_
            rotate_left
            · (intro w hSw; (try dsimp only at hSw); go_simp; try with_reducible rfl)
            (try simp only [Act.put, List.setIfInBounds_toArray, List.set_cons_zero, List.set_cons_succ])
            refine wpAnyH_take (i := 17) (v := undef) rfl (by kernel_rfl) (by kernel_rfl) (by kernel_rfl) (fun _ _ _ h => h) (Or.inr ⟨by kernel_rfl, rfl⟩) (by assumption) ?_
            (try simp only [Act.put, List.setIfInBounds_toArray, List.set_cons_zero, List.set_cons_succ])
            refine wpAnyH_take (i := 18) (v := undef) rfl (by kernel_rfl) (by kernel_rfl) (by kernel_rfl) (fun _ _ _ h => h) (Or.inr ⟨by kernel_rfl, rfl⟩) (by assumption) ?_
            (try simp only [Act.put, List.setIfInBounds_toArray, List.set_cons_zero, List.set_cons_succ])
            refine wpAnyH_take (i := 19) (v := undef) rfl (by kernel_rfl) (by kernel_rfl) (by kernel_rfl) (fun _ _ _ h => h) (Or.inr ⟨by kernel_rfl, rfl⟩) (by assumption) ?_
            (try simp only [Act.put, List.setIfInBounds_toArray, List.set_cons_zero, List.set_cons_succ])
            refine wpAnyH_take (i := 20) (v := undef) rfl (by kernel_rfl) (by kernel_rfl) (by kernel_rfl) (fun _ _ _ h => h) (Or.inr ⟨by kernel_rfl, rfl⟩) (by assumption) ?_
            (try simp only [Act.put, List.setIfInBounds_toArray, List.set_cons_zero, List.set_cons_succ])
            refine wpAnyH_take (i := 21) (v := undef) rfl (by kernel_rfl) (by kernel_rfl) (by kernel_rfl) (fun _ _ _ h => h) (Or.inr ⟨by kernel_rfl, rfl⟩) (by assumption) ?_
            (try simp only [Act.put, List.setIfInBounds_toArray, List.set_cons_zero, List.set_cons_succ])
            refine wpAnyH_take (i := 22) (v := undef) rfl (by kernel_rfl) (by kernel_rfl) (by kernel_rfl) (fun _ _ _ h => h) (Or.inr ⟨by kernel_rfl, rfl⟩) (by assumption) ?_
            (try simp only [Act.put, List.setIfInBounds_toArray, List.set_cons_zero, List.set_cons_succ])
            refine wpAnyH_take (i := 23) (v := ?_) rfl (by kernel_rfl) (by kernel_rfl) (by kernel_rfl) (fun _ _ _ h => h) (Or.inl ⟨by kernel_rfl, ?_⟩) (by assumption) ?_
            rotate_left
            · (intro w hSw; (try dsimp only at hSw); go_simp; try with_reducible rfl)
            (try simp only [Act.put, List.setIfInBounds_toArray, List.set_cons_zero, List.set_cons_succ])
            refine wpAnyH_take (i := 24) (v := ?_) rfl (by kernel_rfl) (by kernel_rfl) (by kernel_rfl) (fun _ _ _ h => h) (Or.inl ⟨by kernel_rfl, ?_⟩) (by assumption) ?_
            rotate_left
            · (intro w hSw; (try dsimp only at hSw); go_simp; try with_reducible rfl)
            (try simp only [Act.put, List.setIfInBounds_toArray, List.set_cons_zero, List.set_cons_succ])
            refine wpAnyH_take (i := 25) (v := ?_) rfl (by kernel_rfl) (by kernel_rfl) (by kernel_rfl) (fun _ _ _ h => h) (Or.inl ⟨by kernel_rfl, ?_⟩) (by assumption) ?_
            rotate_left
            · (intro w hSw; (try dsimp only at hSw); go_simp; try with_reducible rfl)
            (try simp only [Act.put, List.setIfInBounds_toArray, List.set_cons_zero, List.set_cons_succ])
            refine wpAnyH_take (i := 26) (v := ?_) rfl (by kernel_rfl) (by kernel_rfl) (by kernel_rfl) (fun _ _ _ h => h) (Or.inl ⟨by kernel_rfl, ?_⟩) (by assumption) ?_
            rotate_left
            · (intro w hSw; (try dsimp only at hSw); go_simp; try with_reducible rfl)
            (try simp only [Act.put, List.setIfInBounds_toArray, List.set_cons_zero, List.set_cons_succ])
            refine wpAnyH_take (i := 27) (v := ?_) rfl (by kernel_rfl) (by kernel_rfl) (by kernel_rfl) (fun _ _ _ h => h) (Or.inl ⟨by kernel_rfl, ?_⟩) (by assumption) ?_
            rotate_left
            · (intro w hSw; (try dsimp only at hSw); go_simp; try with_reducible rfl)
            (try simp only [Act.put, List.setIfInBounds_toArray, List.set_cons_zero, List.set_cons_succ])
            refine wpAnyH_take (i := 28) (v := ?_) rfl (by kernel_rfl) (by kernel_rfl) (by kernel_rfl) (fun _ _ _ h => h) (Or.inl ⟨by kernel_rfl, ?_⟩) (by assumption) ?_
            rotate_left
            · (intro w hSw; (try dsimp only at hSw); go_simp; try with_reducible rfl)
            (try simp only [Act.put, List.setIfInBounds_toArray, List.set_cons_zero, List.set_cons_succ])
            refine wpAnyH_take (i := 29) (v := ?_) rfl (by kernel_rfl) (by kernel_rfl) (by kernel_rfl) (fun _ _ _ h => h) (Or.inl ⟨by kernel_rfl, ?_⟩) (by assumption) ?_
            rotate_left
            · (intro w hSw; (try dsimp only at hSw); go_simp; try with_reducible rfl)
            (try simp only [Act.put, List.setIfInBounds_toArray, List.set_cons_zero, List.set_cons_succ])
            refine wpAnyH_take (i := 30) (v := ?_) rfl (by kernel_rfl) (by kernel_rfl) (by kernel_rfl) (fun _ _ _ h => h) (Or.inl ⟨by kernel_rfl, ?_⟩) (by assumption) ?_
            rotate_left
            · (intro w hSw; (try dsimp only at hSw); go_simp; try with_reducible rfl)
            (try simp only [Act.put, List.setIfInBounds_toArray, List.set_cons_zero, List.set_cons_succ])
            refine wpAnyH_take (i := 32) (v := ?_) rfl (by kernel_rfl) (by kernel_rfl) (by kernel_rfl) (fun _ _ _ h => h) (Or.inl ⟨by kernel_rfl, ?_⟩) (by assumption) ?_
            rotate_left
            · (intro w hSw; (try dsimp only at hSw); go_simp; try with_reducible rfl)
            (try simp only [Act.put, List.setIfInBounds_toArray, List.set_cons_zero, List.set_cons_succ])
            refine wpAnyH_take (i := 33) (v := ?_) rfl (by kernel_rfl) (by kernel_rfl) (by kernel_rfl) (fun _ _ _ h => h) (Or.inl ⟨by kernel_rfl, ?_⟩) (by assumption) ?_
            rotate_left
            · (intro w hSw; (try dsimp only at hSw); go_simp; try with_reducible rfl)
            (try simp only [Act.put, List.setIfInBounds_toArray, List.set_cons_zero, List.set_cons_succ])
            refine wpAnyH_ready (rs := [31]) (by kernel_rfl) (by simp) ?_
            refine AllReadyH.cons rfl (fun K hK => ?_) AllReadyH.nil
            go_simp
            refine (immediate_own _ _ _ _ _ _ _).mono ?_
            rintro e w8 ⟨rfl, hf8⟩
            have F8 : Hid (Fr [] w2 w8) := ((Fr.refl [] w2).drew).then hf8
            clear hf8
            refine hK.out _ _ ?_ (fun hHeld => ?_)
            · exact HS.out _ F8.out
            clear hK K
            (try simp only [Act.put, List.setIfInBounds_toArray, List.set_cons_zero, List.set_cons_succ])
            refine wpAnyH_ready (rs := [34]) (by kernel_rfl) (by simp) ?_
            refine AllReadyH.cons rfl (fun K hK => ?_) AllReadyH.nil
            go_simp
            refine (bEqual_any _ _ bytes bytes _ (Hbv.out.fr (HF2.out.then F8.out) (by simp)) (Hbb.out.fr (HF2.out.then F8.out) (by simp))).mono ?_
            rw [beq_self_eq_true]
            rintro e w9 ⟨rfl, rfl⟩
            refine hK.out _ _ ?_ (fun hHeld => ?_)
            · exact HS.out _ F8.out
            clear hK K
            (try simp only [Act.put, List.setIfInBounds_toArray, List.set_cons_zero, List.set_cons_succ])
            refine wpAnyH_take (i := 35) (v := ?_) rfl (by kernel_rfl) (by kernel_rfl) (by kernel_rfl) (fun _ _ _ h => h) (Or.inl ⟨by kernel_rfl, ?_⟩) (by assumption) ?_
            rotate_left
            · (intro w hSw; (try dsimp only at hSw); go_simp; try with_reducible rfl)
            (try simp only [Act.put, List.setIfInBounds_toArray, List.set_cons_zero, List.set_cons_succ])
            refine wpAnyH_take (i := 36) (v := ?_) rfl (by kernel_rfl) (by kernel_rfl) (by kernel_rfl) (fun _ _ _ h => h) (Or.inl ⟨by kernel_rfl, ?_⟩) (by assumption) ?_
            rotate_left
            · (intro w hSw; (try dsimp only at hSw); go_simp; try with_reducible rfl)
            (try simp only [Act.put, List.setIfInBounds_toArray, List.set_cons_zero, List.set_cons_succ])
            refine wpAnyH_take (i := 37) (v := ?_) rfl (by kernel_rfl) (by kernel_rfl) (by kernel_rfl) (fun _ _ _ h => h) (Or.inl ⟨by kernel_rfl, ?_⟩) (by assumption) ?_
            rotate_left
            · (intro w hSw; (try dsimp only at hSw); go_simp; try with_reducible rfl)
            (try simp only [Act.put, List.setIfInBounds_toArray, List.set_cons_zero, List.set_cons_succ])
            refine wpAnyH_done (by kernel_rfl) ?_ _
            go_wp2_with fail
            go_roundw
            case rel => exact ⟨k + 1, by omega, by go_num, HF.out.then (HF2.out.then F8.out)⟩
            case measure => simp [intOf]; omega
          · have hst : stk = true := by cases stk with | true => rfl | false => exact absurd ⟨rfl, rfl⟩ hstk
            subst hst
            obtain ⟨z, hz, hz8, hbz⟩ : ∃ z : Nat, size = (z : Int) ∧ z ≤ 8 ∧ bytes = leL (u64of value) z := by
              rcases Hp.out.stk rfl rfl with h | ⟨h1, h2, h3⟩
              · exact absurd h Hs0.out
              · exact ⟨size.toNat, by simp only at h1; omega, by simp only at h1 h2; omega, h3⟩
            rw [Hum.out] at hbz
            have Hbz := Lib.hid hbz
            subst hz
            clear hum hs0 hstk hbz
            go_upto_region 10 with fail
            have h6 := blk_alloc (x := .cells #[vi 2, vi value, vi (z : Int), .slice da bytes.length dc, .bool true] 114) (blk_new wr (.cells #[vi 2, .int .u64 (um : Int), vi (z : Int), .slice none 0 0] 68))
            have h7 := blk_new (wr.alloc (.cells #[vi 2, .int .u64 (um : Int), vi (z : Int), .slice none 0 0] 68)) (.cells #[vi 2, vi value, vi (z : Int), .slice da bytes.length dc, .bool true] 114)
            have hf2 := ((Fr.refl [] wr).alloc (.cells #[vi 2, .int .u64 (um : Int), vi (z : Int), .slice none 0 0] 68)).alloc (.cells #[vi 2, vi value, vi (z : Int), .slice da bytes.length dc, .bool true] 114)
            simp only [World.size_alloc] at h7
            generalize ((wr.alloc (.cells #[vi 2, .int .u64 (um : Int), vi (z : Int), .slice none 0 0] 68)).alloc (.cells #[vi 2, vi value, vi (z : Int), .slice da bytes.length dc, .bool true] 114)) = w2 at *
            have HS : Hid (∀ w', Fr [] w2 w' → w'.cell? ⟨wr.heap.size, 0, none⟩ = some (vi 2) ∧ w'.cell? ⟨wr.heap.size, 1, none⟩ = some (.int .u64 (um : Int)) ∧ w'.cell? ⟨wr.heap.size, 2, none⟩ = some (vi (z : Int)) ∧ w'.cell? ⟨wr.heap.size, 3, none⟩ = some (.slice none 0 0) ∧ w'.cell? ⟨wr.heap.size + 1, 0, none⟩ = some (vi 2) ∧ w'.cell? ⟨wr.heap.size + 1, 2, none⟩ = some (vi (z : Int)) ∧ w'.cell? ⟨wr.heap.size + 1, 3, none⟩ = some (.slice da bytes.length dc)) := fun w' f => by
              have k6 := f.get h6 (by simp)
              have k7 := f.get h7 (by simp)
              exact ⟨blk_cell k6 0, blk_cell k6 1, blk_cell k6 2, blk_cell k6 3, blk_cell k7 0, blk_cell k7 2, blk_cell k7 3⟩
            have HF2 := Lib.hid hf2
            have Hz8 := Lib.hid hz8
            clear h6 h7 hf2 b0' b1' b2' b3' b4' a0 a1 a2 a3 hz8
            refine wp_region_held_drew (S := (fun w' => w'.cell? ⟨wr.heap.size, 0, none⟩ = some (vi 2) ∧ w'.cell? ⟨wr.heap.size, 1, none⟩ = some (.int .u64 (um : Int)) ∧ w'.cell? ⟨wr.heap.size, 2, none⟩ = some (vi (z : Int)) ∧ w'.cell? ⟨wr.heap.size, 3, none⟩ = some (.slice none 0 0) ∧ w'.cell? ⟨wr.heap.size + 1, 0, none⟩ = some (vi 2) ∧ w'.cell? ⟨wr.heap.size + 1, 2, none⟩ = some (vi (z : Int)) ∧ w'.cell? ⟨wr.heap.size + 1, 3, none⟩ = some (.slice da bytes.length dc))) (by kernel_rfl) ?_ (fun hHeld => ?_)
            · (first | exact HS.out _ (Fr.refl [] _) | exact HS.out _ (Fr.refl [] _).drew)
            refine wpAnyH_take (i := 0) (v := ?_) rfl (by kernel_rfl) (by kernel_rfl) (by kernel_rfl) (fun _ _ _ h => h) (Or.inl ⟨by kernel_rfl, ?_⟩) (by assumption) ?_
            rotate_left
            · (intro w hSw; (try dsimp only at hSw); go_simp; try with_reducible rfl)
            (try simp only [Act.put, List.setIfInBounds_toArray, List.set_cons_zero, List.set_cons_succ])
            refine wpAnyH_take (i := 1) (v := ?_) rfl (by kernel_rfl) (by kernel_rfl) (by kernel_rfl) (fun _ _ _ h => h) (Or.inl ⟨by kernel_rfl, ?_⟩) (by assumption) ?_
            rotate_left
            · (intro w hSw; (try dsimp only at hSw); go_simp; try with_reducible rfl)
            (try simp only [Act.put, List.setIfInBounds_toArray, List.set_cons_zero, List.set_cons_succ])
            refine wpAnyH_take (i := 2) (v := ?_) rfl (by kernel_rfl) (by kernel_rfl) (by kernel_rfl) (fun _ _ _ h => h) (Or.inl ⟨by kernel_rfl, ?_⟩) (by assumption) ?_
            rotate_left
            · (intro w hSw; (try dsimp only at hSw); go_simp; try with_reducible rfl)
            (try simp only [Act.put, List.setIfInBounds_toArray, List.set_cons_zero, List.set_cons_succ])
            refine wpAnyH_take (i := 3) (v := ?_) rfl (by kernel_rfl) (by kernel_rfl) (by kernel_rfl) (fun _ _ _ h => h) (Or.inl ⟨by kernel_rfl, ?_⟩) (by assumption) ?_
            rotate_left
            · (intro w hSw; (try dsimp only at hSw); go_simp; try with_reducible rfl)
            (try simp only [Act.put, List.setIfInBounds_toArray, List.set_cons_zero, List.set_cons_succ])
            refine wpAnyH_take (i := 4) (v := ?_) rfl (by kernel_rfl) (by kernel_rfl) (by kernel_rfl) (fun _ _ _ h => h) (Or.inl ⟨by kernel_rfl, ?_⟩) (by assumption) ?_
            rotate_left
            · (intro w hSw; (try dsimp only at hSw); go_simp; try with_reducible rfl)
            (try simp only [Act.put, List.setIfInBounds_toArray, List.set_cons_zero, List.set_cons_succ])
            refine wpAnyH_take (i := 5) (v := ?_) rfl (by kernel_rfl) (by kernel_rfl) (by kernel_rfl) (fun _ _ _ h => h) (Or.inl ⟨by kernel_rfl, ?_⟩) (by assumption) ?_
            rotate_left
            · (intro w hSw; (try dsimp only at hSw); go_simp; try with_reducible rfl)
            (try simp only [Act.put, List.setIfInBounds_toArray, List.set_cons_zero, List.set_cons_succ])
            refine wpAnyH_take (i := 6) (v := ?_) rfl (by kernel_rfl) (by kernel_rfl) (by kernel_rfl) (fun _ _ _ h => h) (Or.inl ⟨by kernel_rfl, ?_⟩) (by assumption) ?_
            rotate_left
            · (intro w hSw; (try dsimp only at hSw); go_simp; try with_reducible rfl)
            (try simp only [Act.put, List.setIfInBounds_toArray, List.set_cons_zero, List.set_cons_succ])
            refine wpAnyH_take (i := 7) (v := ?_) rfl (by kernel_rfl) (by kernel_rfl) (by kernel_rfl) (fun _ _ _ h => h) (Or.inl ⟨by kernel_rfl, ?_⟩) (by assumption) ?_
            rotate_left
            · (intro w hSw; (try dsimp only at hSw); go_simp; try with_reducible rfl)
            (try simp only [Act.put, List.setIfInBounds_toArray, List.set_cons_zero, List.set_cons_succ])
            refine wpAnyH_take (i := 8) (v := ?_) rfl (by kernel_rfl) (by kernel_rfl) (by kernel_rfl) (fun _ _ _ h => h) (Or.inl ⟨by kernel_rfl, ?_⟩) (by assumption) ?_
            rotate_left
            · (intro w hSw; (try dsimp only at hSw); go_simp; try with_reducible rfl)
            (try simp only [Act.put, List.setIfInBounds_toArray, List.set_cons_zero, List.set_cons_succ])
            refine wpAnyH_take (i := 9) (v := ?_) rfl (by kernel_rfl) (by kernel_rfl) (by kernel_rfl) (fun _ _ _ h => h) (Or.inl ⟨by kernel_rfl, ?_⟩) (by assumption) ?_
            rotate_left
            · (intro w hSw; (try dsimp only at hSw); go_simp; try with_reducible rfl)
            (try simp only [Act.put, List.setIfInBounds_toArray, List.set_cons_zero, List.set_cons_succ])
            refine wpAnyH_take (i := 10) (v := ?_) rfl (by kernel_rfl) (by kernel_rfl) (by kernel_rfl) (fun _ _ _ h => h) (Or.inl ⟨by kernel_rfl, ?_⟩) (by assumption) ?_
            rotate_left
            · (intro w hSw; (try dsimp only at hSw); go_simp; try with_reducible rfl)
            (try simp only [Act.put, List.setIfInBounds_toArray, List.set_cons_zero, List.set_cons_succ])
            refine wpAnyH_take (i := 11) (v := ?_) rfl (by kernel_rfl) (by kernel_rfl) (by kernel_rfl) (fun _ _ _ h => h) (Or.inl ⟨by kernel_rfl, ?_⟩) (by assumption) ?_
            rotate_left
            · (intro w hSw; (try dsimp only at hSw); go_simp; try with_reducible rfl)
            (try simp only [Act.put, List.setIfInBounds_toArray, List.set_cons_zero, List.set_cons_succ])
            refine wpAnyH_take (i := 12) (v := ?_) rfl (by kernel_rfl) (by kernel_rfl) (by kernel_rfl) (fun _ _ _ h => h) (Or.inl ⟨by kernel_rfl, ?_⟩) (by assumption) ?_
            rotate_left
            · (intro w hSw; (try dsimp only at hSw); go_simp; try with_reducible rfl)
            (try simp only [Act.put, List.setIfInBounds_toArray, List.set_cons_zero, List.set_cons_succ])
            refine wpAnyH_take (i := 13) (v := ?_) rfl (by kernel_rfl) (by kernel_rfl) (by kernel_rfl) (fun _ _ _ h => h) (Or.inl ⟨by kernel_rfl, ?_⟩) (by assumption) ?_
            rotate_left
            · (intro w hSw; (try dsimp only at hSw); go_simp; try with_reducible rfl)
            (try simp only [Act.put, List.setIfInBounds_toArray, List.set_cons_zero, List.set_cons_succ])
            refine wpAnyH_take (i := 14) (v := ?_) rfl (by kernel_rfl) (by kernel_rfl) (by kernel_rfl) (fun _ _ _ h => h) (Or.inl ⟨by kernel_rfl, ?_⟩) (by assumption) ?_
            rotate_left
            · (intro w hSw; (try dsimp only at hSw); go_simp; try with_reducible rfl)
            (try simp only [Act.put, List.setIfInBounds_toArray, List.set_cons_zero, List.set_cons_succ])
            refine wpAnyH_take (i := 15) (v := ?_) rfl (by kernel_rfl) (by kernel_rfl) (by kernel_rfl) (fun _ _ _ h => h) (Or.inl ⟨by kernel_rfl, ?_⟩) (by assumption) ?_
            rotate_left
            · (intro w hSw; (try dsimp only at hSw); go_simp; try with_reducible rfl)
            (try simp only [Act.put, List.setIfInBounds_toArray, List.set_cons_zero, List.set_cons_succ])
            refine wpAnyH_take (i := 16) (v := ?_) rfl (by kernel_rfl) (by kernel_rfl) (by kernel_rfl) (fun _ _ _ h => h) (Or.inl ⟨by kernel_rfl, ?_⟩) (by assumption) ?_
            rotate_left
            · (intro w hSw; (try dsimp only at hSw); go_simp; try with_reducible rfl)
            (try simp only [Act.put, List.setIfInBounds_toArray, List.set_cons_zero, List.set_cons_succ])
            refine wpAnyH_take (i := 17) (v := undef) rfl (by kernel_rfl) (by kernel_rfl) (by kernel_rfl) (fun _ _ _ h => h) (Or.inr ⟨by kernel_rfl, rfl⟩) (by assumption) ?_
            (try simp only [Act.put, List.setIfInBounds_toArray, List.set_cons_zero, List.set_cons_succ])
            refine wpAnyH_take (i := 18) (v := undef) rfl (by kernel_rfl) (by kernel_rfl) (by kernel_rfl) (fun _ _ _ h => h) (Or.inr ⟨by kernel_rfl, rfl⟩) (by assumption) ?_
            (try simp only [Act.put, List.setIfInBounds_toArray, List.set_cons_zero, List.set_cons_succ])
            refine wpAnyH_take (i := 19) (v := undef) rfl (by kernel_rfl) (by kernel_rfl) (by kernel_rfl) (fun _ _ _ h => h) (Or.inr ⟨by kernel_rfl, rfl⟩) (by assumption) ?_
            (try simp only [Act.put, List.setIfInBounds_toArray, List.set_cons_zero, List.set_cons_succ])
            refine wpAnyH_take (i := 20) (v := undef) rfl (by kernel_rfl) (by kernel_rfl) (by kernel_rfl) (fun _ _ _ h => h) (Or.inr ⟨by kernel_rfl, rfl⟩) (by assumption) ?_
            (try simp only [Act.put, List.setIfInBounds_toArray, List.set_cons_zero, List.set_cons_succ])
            refine wpAnyH_take (i := 21) (v := undef) rfl (by kernel_rfl) (by kernel_rfl) (by kernel_rfl) (fun _ _ _ h => h) (Or.inr ⟨by kernel_rfl, rfl⟩) (by assumption) ?_
            (try simp only [Act.put, List.setIfInBounds_toArray, List.set_cons_zero, List.set_cons_succ])
            refine wpAnyH_take (i := 22) (v := undef) rfl (by kernel_rfl) (by kernel_rfl) (by kernel_rfl) (fun _ _ _ h => h) (Or.inr ⟨by kernel_rfl, rfl⟩) (by assumption) ?_
            (try simp only [Act.put, List.setIfInBounds_toArray, List.set_cons_zero, List.set_cons_succ])
            refine wpAnyH_take (i := 23) (v := ?_) rfl (by kernel_rfl) (by kernel_rfl) (by kernel_rfl) (fun _ _ _ h => h) (Or.inl ⟨by kernel_rfl, ?_⟩) (by assumption) ?_
            rotate_left
            · (intro w hSw; (try dsimp only at hSw); go_simp; try with_reducible rfl)
            (try simp only [Act.put, List.setIfInBounds_toArray, List.set_cons_zero, List.set_cons_succ])
            refine wpAnyH_take (i := 24) (v := ?_) rfl (by kernel_rfl) (by kernel_rfl) (by kernel_rfl) (fun _ _ _ h => h) (Or.inl ⟨by kernel_rfl, ?_⟩) (by assumption) ?_
            rotate_left
            · (intro w hSw; (try dsimp only at hSw); go_simp; try with_reducible rfl)
            (try simp only [Act.put, List.setIfInBounds_toArray, List.set_cons_zero, List.set_cons_succ])
            refine wpAnyH_take (i := 25) (v := ?_) rfl (by kernel_rfl) (by kernel_rfl) (by kernel_rfl) (fun _ _ _ h => h) (Or.inl ⟨by kernel_rfl, ?_⟩) (by assumption) ?_
            rotate_left
            · (intro w hSw; (try dsimp only at hSw); go_simp; try with_reducible rfl)
            (try simp only [Act.put, List.setIfInBounds_toArray, List.set_cons_zero, List.set_cons_succ])
            refine wpAnyH_take (i := 26) (v := ?_) rfl (by kernel_rfl) (by kernel_rfl) (by kernel_rfl) (fun _ _ _ h => h) (Or.inl ⟨by kernel_rfl, ?_⟩) (by assumption) ?_
            rotate_left
            · (intro w hSw; (try dsimp only at hSw); go_simp; try with_reducible rfl)
            (try simp only [Act.put, List.setIfInBounds_toArray, List.set_cons_zero, List.set_cons_succ])
            refine wpAnyH_take (i := 27) (v := ?_) rfl (by kernel_rfl) (by kernel_rfl) (by kernel_rfl) (fun _ _ _ h => h) (Or.inl ⟨by kernel_rfl, ?_⟩) (by assumption) ?_
            rotate_left
            · (intro w hSw; (try dsimp only at hSw); go_simp; try with_reducible rfl)
            (try simp only [Act.put, List.setIfInBounds_toArray, List.set_cons_zero, List.set_cons_succ])
            refine wpAnyH_take (i := 28) (v := ?_) rfl (by kernel_rfl) (by kernel_rfl) (by kernel_rfl) (fun _ _ _ h => h) (Or.inl ⟨by kernel_rfl, ?_⟩) (by assumption) ?_
            rotate_left
            · (intro w hSw; (try dsimp only at hSw); go_simp; try with_reducible rfl)
            (try simp only [Act.put, List.setIfInBounds_toArray, List.set_cons_zero, List.set_cons_succ])
            refine wpAnyH_take (i := 29) (v := ?_) rfl (by kernel_rfl) (by kernel_rfl) (by kernel_rfl) (fun _ _ _ h => h) (Or.inl ⟨by kernel_rfl, ?_⟩) (by assumption) ?_
            rotate_left
            · (intro w hSw; (try dsimp only at hSw); go_simp; try with_reducible rfl)
            (try simp only [Act.put, List.setIfInBounds_toArray, List.set_cons_zero, List.set_cons_succ])
            refine wpAnyH_take (i := 30) (v := ?_) rfl (by kernel_rfl) (by kernel_rfl) (by kernel_rfl) (fun _ _ _ h => h) (Or.inl ⟨by kernel_rfl, ?_⟩) (by assumption) ?_
            rotate_left
            · (intro w hSw; (try dsimp only at hSw); go_simp; try with_reducible rfl)
            (try simp only [Act.put, List.setIfInBounds_toArray, List.set_cons_zero, List.set_cons_succ])
            refine wpAnyH_take (i := 32) (v := ?_) rfl (by kernel_rfl) (by kernel_rfl) (by kernel_rfl) (fun _ _ _ h => h) (Or.inl ⟨by kernel_rfl, ?_⟩) (by assumption) ?_
            rotate_left
            · (intro w hSw; (try dsimp only at hSw); go_simp; try with_reducible rfl)
            (try simp only [Act.put, List.setIfInBounds_toArray, List.set_cons_zero, List.set_cons_succ])
            refine wpAnyH_take (i := 33) (v := ?_) rfl (by kernel_rfl) (by kernel_rfl) (by kernel_rfl) (fun _ _ _ h => h) (Or.inl ⟨by kernel_rfl, ?_⟩) (by assumption) ?_
            rotate_left
            · (intro w hSw; (try dsimp only at hSw); go_simp; try with_reducible rfl)
            (try simp only [Act.put, List.setIfInBounds_toArray, List.set_cons_zero, List.set_cons_succ])
            refine wpAnyH_ready (rs := [31]) (by kernel_rfl) (by simp) ?_
            refine AllReadyH.cons rfl (fun K hK => ?_) AllReadyH.nil
            go_simp
            refine (immediate_val _ um z hub Hz8.out _).mono ?_
            rintro e w8 ⟨a8, c8, rfl, ho8, hf8⟩
            have F8 : Hid (Fr [] w2 w8) := ((Fr.refl [] w2).drew).then hf8
            have Ho8 := Lib.hid ho8
            clear hf8 ho8
            refine hK.out _ _ ?_ (fun hHeld => ?_)
            · exact HS.out _ F8.out
            clear hK K
            (try simp only [Act.put, List.setIfInBounds_toArray, List.set_cons_zero, List.set_cons_succ])
            refine wpAnyH_ready (rs := [34]) (by kernel_rfl) (by simp) ?_
            refine AllReadyH.cons rfl (fun K hK => ?_) AllReadyH.nil
            go_simp
            refine (bEqual_any _ _ (leL um z) bytes _ (own_sl Ho8.out) (Hbb.out.fr (HF2.out.then F8.out) (by simp))).mono ?_
            rw [Hbz.out, beq_self_eq_true]
            rintro e w9 ⟨rfl, rfl⟩
            refine hK.out _ _ ?_ (fun hHeld => ?_)
            · exact HS.out _ F8.out
            clear hK K
            (try simp only [Act.put, List.setIfInBounds_toArray, List.set_cons_zero, List.set_cons_succ])
            refine wpAnyH_take (i := 35) (v := ?_) rfl (by kernel_rfl) (by kernel_rfl) (by kernel_rfl) (fun _ _ _ h => h) (Or.inl ⟨by kernel_rfl, ?_⟩) (by assumption) ?_
            rotate_left
            · (intro w hSw; (try dsimp only at hSw); go_simp; try with_reducible rfl)
            (try simp only [Act.put, List.setIfInBounds_toArray, List.set_cons_zero, List.set_cons_succ])
            refine wpAnyH_take (i := 36) (v := ?_) rfl (by kernel_rfl) (by kernel_rfl) (by kernel_rfl) (fun _ _ _ h => h) (Or.inl ⟨by kernel_rfl, ?_⟩) (by assumption) ?_
            rotate_left
            · (intro w hSw; (try dsimp only at hSw); go_simp; try with_reducible rfl)
            (try simp only [Act.put, List.setIfInBounds_toArray, List.set_cons_zero, List.set_cons_succ])
            refine wpAnyH_take (i := 37) (v := ?_) rfl (by kernel_rfl) (by kernel_rfl) (by kernel_rfl) (fun _ _ _ h => h) (Or.inl ⟨by kernel_rfl, ?_⟩) (by assumption) ?_
            rotate_left
            · (intro w hSw; (try dsimp only at hSw); go_simp; try with_reducible rfl)
            (try simp only [Act.put, List.setIfInBounds_toArray, List.set_cons_zero, List.set_cons_succ])
            refine wpAnyH_done (by kernel_rfl) ?_ _
            go_wp2_with fail
            go_roundw
            case rel => exact ⟨k + 1, by omega, by go_num, HF.out.then (HF2.out.then F8.out)⟩
            case measure => simp [intOf]; omega
      · have hk3 : (kind == 2) = false := by simpa using hk2
        have hk4 : (kind != 2) = true := by simpa using hk2
        have hbv : bv = .slice none 0 0 := by
          rcases hab with ⟨h, -, -⟩ | ⟨-, h⟩
          · exact absurd h hk2
          · exact h
        subst hbv
        obtain ⟨um, hum⟩ : ∃ um, u64of value = um := ⟨_, rfl⟩
        rw [hum] at hu a1 hub
        clear hum hab hk2
        go_wp2_with fail
        go_quiet (fail)
        go_wp2_with fail
        go_roundw
        case rel => exact ⟨k + 1, by omega, by go_num, ((HF.out.alloc _).alloc _).drewN _⟩
        case measure => simp [intOf]; omega
    · obtain rfl : k = l.length := by omega
      clear hlt
      go_wp2_with fail
      go_ret
      exact ⟨rfl, HF.out⟩
end Go.Proofs.Ytahohmdfllgedaa
