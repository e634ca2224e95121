/- The entries of a section, one behind the other; what the parser has made of them so far. -/
import Derived.Test.YtahohmdfllgedaaApart
import Derived.Test.YtahohmdfllgedaaPars6
namespace Go.Proofs.Ytahohmdfllgedaa
open Go.RowKit

inductive Item where
  | cie (c : LCommon)
  | fde (n : Nat) (c : LCommon) (f : LFrame)

def itemL : Item → List UInt8
  | .cie c => padL (cieL c)
  | .fde n _ f => padL (fdeL n f)
def itemsL (is : List Item) : List UInt8 := is.flatMap itemL
def itemsFrom : Nat → List LCommon → List Item
  | _, [] => []
  | n, c :: cs => (.cie c :: c.frames.map (.fde n c)) ++ itemsFrom (n + (entL n c).length) cs
/-- Where entry k begins. -/
def offs (is : List Item) (k : Nat) : Nat := (itemsL (is.take k)).length
def fdes (is : List Item) : List (LCommon × LFrame) := is.filterMap fun | .fde _ c f => some (c, f) | _ => none

theorem itemsL_app (a b : List Item) : itemsL (a ++ b) = itemsL a ++ itemsL b := List.flatMap_append
theorem ent_items (n : Nat) (c : LCommon) : itemsL (.cie c :: c.frames.map (.fde n c)) = entL n c := by
  simp [itemsL, itemL, entL, List.flatMap_map]
theorem items_sec (l : List LCommon) : ∀ n, itemsL (itemsFrom n l) = secFrom n l := by
  induction l with
  | nil => intro n; rfl
  | cons c cs ih => intro n; rw [itemsFrom, itemsL_app, ent_items, ih, secFrom]
theorem fdes_items (l : List LCommon) : ∀ n, fdes (itemsFrom n l) = l.flatMap fun c => c.frames.map fun f => (c, f) := by
  induction l with
  | nil => intro n; rfl
  | cons c cs ih =>
    intro n
    have e : fdes (.cie c :: c.frames.map (.fde n c)) = c.frames.map fun f => (c, f) := by
      simp only [fdes, List.filterMap_cons, List.filterMap_map]
      rw [← List.filterMap_eq_map]; rfl
    rw [itemsFrom, fdes, List.filterMap_append, List.flatMap_cons, ← ih]
    exact congrArg (· ++ _) e
theorem allFr_fdes (l : List LCommon) (n : Nat) : (fdes (itemsFrom n l)).map (·.2) = allFr l := by
  rw [fdes_items, List.map_flatMap]; simp [allFr, List.map_map, Function.comp_def]

/-- A frame's entry points back to its common entry. -/
theorem items_back (l : List LCommon) : ∀ n k m c f, (itemsFrom n l)[k]? = some (.fde m c f) → ∃ j, j < k ∧ (itemsFrom n l)[j]? = some (.cie c) ∧ m = n + offs (itemsFrom n l) j := by
  induction l with
  | nil => intro n k m c f h; simp [itemsFrom] at h
  | cons c0 cs ih =>
    intro n k m c f h
    have hlen : (Item.cie c0 :: c0.frames.map (Item.fde n c0)).length = c0.frames.length + 1 := by simp
    rw [itemsFrom] at h ⊢
    by_cases hk : k < c0.frames.length + 1
    · rw [List.getElem?_append_left (by omega)] at h
      cases k with
      | zero => simp at h
      | succ k =>
        simp at h
        obtain ⟨f', hf', rfl, rfl, rfl⟩ := h
        exact ⟨0, by omega, by simp, by simp [offs, itemsL]⟩
    · rw [List.getElem?_append_right (by omega), hlen] at h
      obtain ⟨j, hj, hc, hm⟩ := ih _ _ _ _ _ h
      refine ⟨j + (c0.frames.length + 1), by omega, ?_, ?_⟩
      · rw [List.getElem?_append_right (by omega), hlen, Nat.add_sub_cancel]; exact hc
      · have e : List.take (j + (c0.frames.length + 1)) (Item.cie c0 :: c0.frames.map (Item.fde n c0) ++ itemsFrom (n + (entL n c0).length) cs) = (Item.cie c0 :: c0.frames.map (Item.fde n c0)) ++ List.take j (itemsFrom (n + (entL n c0).length) cs) := by
          rw [List.take_append, hlen, Nat.add_sub_cancel, List.take_of_length_le (l := Item.cie c0 :: c0.frames.map (Item.fde n c0)) (by rw [hlen]; omega)]
        rw [hm, offs, offs, e, itemsL_app, ent_items, List.length_append]; omega

theorem items_mem_cie {l : List LCommon} : ∀ {n : Nat} {c : LCommon}, Item.cie c ∈ itemsFrom n l → c ∈ l := by
  induction l with
  | nil => intro n c h; simp [itemsFrom] at h
  | cons c0 cs ih =>
    intro n c h
    rw [itemsFrom] at h
    rcases List.mem_append.1 h with h | h
    · simp at h; simp [h]
    · exact List.mem_cons_of_mem _ (ih h)
theorem items_mem_fde {l : List LCommon} : ∀ {n m : Nat} {c : LCommon} {f : LFrame}, Item.fde m c f ∈ itemsFrom n l → c ∈ l ∧ f ∈ c.frames := by
  induction l with
  | nil => intro n m c f h; simp [itemsFrom] at h
  | cons c0 cs ih =>
    intro n m c f h
    rw [itemsFrom] at h
    rcases List.mem_append.1 h with h | h
    · simp at h; obtain ⟨h1, h2, -, rfl, rfl⟩ := h; exact ⟨by simp, h2⟩
    · have := ih h; exact ⟨List.mem_cons_of_mem _ this.1, this.2⟩

theorem offs_succ (is : List Item) (k : Nat) (i : Item) (h : is[k]? = some i) : offs is (k + 1) = offs is k + (itemL i).length := by
  obtain ⟨hk, he⟩ := List.getElem?_eq_some_iff.1 h
  rw [offs, offs, List.take_succ_eq_append_getElem hk, itemsL_app, List.length_append, he]; simp [itemsL]
theorem drop_item (is : List Item) (k : Nat) (i : Item) (h : is[k]? = some i) : (itemsL is).drop (offs is k) = itemL i ++ itemsL (is.drop (k + 1)) := by
  obtain ⟨hk, he⟩ := List.getElem?_eq_some_iff.1 h
  have e : is = is.take k ++ i :: is.drop (k + 1) := by rw [← he, ← List.drop_eq_getElem_cons hk, List.take_append_drop]
  conv => lhs; rw [e, itemsL_app, List.drop_append_of_le_length (by rw [offs, ← e]; exact Nat.le_refl _)]
  rw [List.drop_of_length_le (by rw [offs, ← e]; exact Nat.le_refl _), List.nil_append]; rfl
theorem offs_mono (is : List Item) {j k : Nat} (h : j ≤ k) : offs is j ≤ offs is k := by
  obtain ⟨d, rfl⟩ := Nat.exists_eq_add_of_le h
  rw [offs, offs, List.take_add, itemsL_app, List.length_append]; omega
theorem item_pos (i : Item) : 0 < (itemL i).length := by cases i <;> simp [itemL, padL, leL_length] <;> omega
theorem offs_lt (is : List Item) {j k : Nat} (h : j < k) (hk : k ≤ is.length) : offs is j < offs is k := by
  have h1 := offs_succ is j is[j] (List.getElem?_eq_getElem (by omega))
  have h2 := item_pos is[j]
  have h3 := offs_mono is (show j + 1 ≤ k by omega)
  omega
theorem offs_all (is : List Item) : offs is is.length = (itemsL is).length := by rw [offs, List.take_length]
theorem fdes_take_cie (is : List Item) (k : Nat) (c : LCommon) (h : is[k]? = some (.cie c)) : fdes (is.take (k + 1)) = fdes (is.take k) := by
  obtain ⟨hk, he⟩ := List.getElem?_eq_some_iff.1 h
  rw [fdes, List.take_succ_eq_append_getElem hk, List.filterMap_append, he]; simp [fdes]
theorem fdes_take_fde (is : List Item) (k : Nat) (n : Nat) (c : LCommon) (f : LFrame) (h : is[k]? = some (.fde n c f)) : fdes (is.take (k + 1)) = fdes (is.take k) ++ [(c, f)] := by
  obtain ⟨hk, he⟩ := List.getElem?_eq_some_iff.1 h
  rw [fdes, List.take_succ_eq_append_getElem hk, List.filterMap_append, he]; simp [fdes]

/-- The fields of an entry's bytes. -/
theorem cie_bytes (c : LCommon) : ∃ body z, padL (cieL c) = leL (body.length + 4) 4 ++ leL 4294967295 4 ++ body ∧
    body = [UInt8.ofNat c.version.toNat, 0] ++ uleb c.code ++ sleb c.offset ++ uleb c.ret.toNat ++ (callsL c.calls ++ List.replicate z 0) := by
  refine ⟨_, padK (cieL c).length, ?_, rfl⟩
  have e : (cieL c).length + padK (cieL c).length = ([UInt8.ofNat c.version.toNat, 0] ++ uleb c.code ++ sleb c.offset ++ uleb c.ret.toNat ++ (callsL c.calls ++ List.replicate (padK (cieL c).length) 0)).length + 4 := by
    simp only [cieL, List.length_append, leL_length, List.length_replicate, List.length_cons, List.length_nil]; omega
  rw [padL, e]
  simp only [cieL, List.append_assoc]
theorem fde_bytes (n : Nat) (f : LFrame) : ∃ body z, padL (fdeL n f) = leL (body.length + 4) 4 ++ leL n 4 ++ body ∧ body = leL f.start 8 ++ leL f.size 8 ++ (callsL f.calls ++ List.replicate z 0) := by
  refine ⟨_, padK (fdeL n f).length, ?_, rfl⟩
  have e : (fdeL n f).length + padK (fdeL n f).length = (leL f.start 8 ++ leL f.size 8 ++ (callsL f.calls ++ List.replicate (padK (fdeL n f).length) 0)).length + 4 := by
    simp only [fdeL, List.length_append, leL_length, List.length_replicate]; omega
  rw [padL, e]
  simp only [fdeL, List.append_assoc]
end Go.Proofs.Ytahohmdfllgedaa
