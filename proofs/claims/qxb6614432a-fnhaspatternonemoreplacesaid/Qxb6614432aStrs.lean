/- Rows of strings; how far a row has been replaced; slices.Clone. -/
import Derived.Test.Qxb6614432aReplace

namespace Go.Proofs.Qxb6614432a
open Go.ChangeShapes Go.WideShapes Go.ChangeAt Go.RowKit Go.Deep
set_option linter.unusedVariables false
/-- a row of the call's own that holds strings -/
structure CR (g n : Nat) (ys : List ByteArray) (w : World) : Prop where
  len : ys.length = n
  cell : ∀ i, i < n → w.cell? ⟨g, i, none⟩ = some (.string (ys.getD i ByteArray.empty))
  froz : ∀ i, w.frozen? ⟨g, i, none⟩ = false
  lt : g < w.heap.size
theorem Frm.frozen {R : Nat} {w w' : World} (h : Frm R w w') {a : Addr} (ha : a.block < w.heap.size) (hR : a.block ≠ R) : w'.frozen? a = w.frozen? a := World.frozen?_of_block (w := w) (h.2.2.2.2 a.block ha hR)
theorem CR.frm {R g n : Nat} {ys : List ByteArray} {w w' : World} (h : CR g n ys w) (hf : Frm R w w') (hg : g ≠ R) : CR g n ys w' :=
  ⟨h.len, fun i hi => by rw [hf.cell (a := ⟨g, i, none⟩) h.lt hg]; exact h.cell i hi, fun i => by rw [hf.frozen (a := ⟨g, i, none⟩) h.lt hg]; exact h.froz i, Nat.lt_of_lt_of_le h.lt hf.2.2.2.1⟩
theorem CR.set {g n : Nat} {ys : List ByteArray} {w : World} (h : CR g n ys w) (k : Nat) (hk : k < n) (t : ByteArray) : CR g n (ys.set k t) (w.setCell ⟨g, k, none⟩ (.string t)) := by
  refine ⟨by rw [List.length_set]; exact h.len, fun i hi => ?_, fun i => ?_, by simpa [World.setCell] using h.lt⟩
  · by_cases e : i = k
    · subst e
      rw [World.cell?_setCell_same w _ _ (h.cell i hi), List.getD_eq_getElem?_getD, List.getElem?_set]
      have := h.len
      rw [if_pos rfl, if_pos (by omega)]
      rfl
    · rw [World.cell?_setCell_other w ⟨g, k, none⟩ ⟨g, i, none⟩ _ (fun h => e (congrArg Addr.off h).symm), h.cell i hi, List.getD_eq_getElem?_getD, List.getD_eq_getElem?_getD, List.getElem?_set, if_neg (fun h => e h.symm)]
  · rw [World.frozen?_setCell]; exact h.froz i
theorem CR.drew {g n : Nat} {ys : List ByteArray} {w : World} (h : CR g n ys w) : CR g n ys w.drew := ⟨h.len, h.cell, h.froz, h.lt⟩
theorem CR.other {g n g' : Nat} {ys : List ByteArray} {w : World} (h : CR g n ys w) (hg : g ≠ g') (k : Nat) (v : Value) : CR g n ys (w.setCell ⟨g', k, none⟩ v) :=
  ⟨h.len, fun i hi => by rw [World.cell?_setCell_other w ⟨g', k, none⟩ ⟨g, i, none⟩ _ (fun h => hg (congrArg Addr.block h).symm)]; exact h.cell i hi, fun i => by rw [World.frozen?_setCell]; exact h.froz i, by simpa [World.setCell] using h.lt⟩
/-- how far the places before k have been replaced -/
def RelK (hit : Nat → ByteArray → Bool) (k : Nat) (xs ys : List ByteArray) : Prop :=
  ∀ i, i < k → (hit i (xs.getD i ByteArray.empty) = false ∧ ys.getD i ByteArray.empty = xs.getD i ByteArray.empty) ∨ (hit i (xs.getD i ByteArray.empty) = true ∧ (ys.getD i ByteArray.empty).size < (xs.getD i ByteArray.empty).size)
def anyHit (hit : Nat → ByteArray → Bool) (xs : List ByteArray) : Bool := (List.range xs.length).any fun i => hit i (xs.getD i ByteArray.empty)
theorem RelK.step {hit : Nat → ByteArray → Bool} {k : Nat} {xs ys : List ByteArray} {t : ByteArray} (h : RelK hit k xs ys) (hk : k < ys.length)
    (ht : (hit k (xs.getD k ByteArray.empty) = false ∧ t = xs.getD k ByteArray.empty) ∨ (hit k (xs.getD k ByteArray.empty) = true ∧ t.size < (xs.getD k ByteArray.empty).size)) : RelK hit (k + 1) xs (ys.set k t) := by
  intro i hi
  by_cases e : i = k
  · subst e
    have : (ys.set i t).getD i ByteArray.empty = t := by rw [List.getD_eq_getElem?_getD, List.getElem?_set, if_pos rfl, if_pos hk]; rfl
    rw [this]; exact ht
  · have : (ys.set k t).getD i ByteArray.empty = ys.getD i ByteArray.empty := by rw [List.getD_eq_getElem?_getD, List.getElem?_set, if_neg (fun h => e h.symm), List.getD_eq_getElem?_getD]
    rw [this]; exact h i (by omega)
theorem RelK.eq {hit : Nat → ByteArray → Bool} {xs ys : List ByteArray} (h : RelK hit xs.length xs ys) (hl : ys.length = xs.length) : decide (ys = xs) = !anyHit hit xs := by
  by_cases c : anyHit hit xs = true
  · rw [c]
    have hc := c
    unfold anyHit at hc
    rw [List.any_eq_true] at hc
    obtain ⟨i, hi, hh⟩ := hc
    have hi' : i < xs.length := by simpa using hi
    apply decide_eq_false
    intro e
    rcases h i hi' with ⟨h1, _⟩ | ⟨_, h2⟩
    · rw [h1] at hh; cases hh
    · rw [e] at h2; omega
  · have c' : anyHit hit xs = false := by simpa using c
    rw [c']
    apply decide_eq_true
    apply List.ext_getElem hl
    intro i h1 h2
    rcases h i h2 with ⟨_, h3⟩ | ⟨h3, _⟩
    · rw [List.getD_eq_getElem?_getD, List.getD_eq_getElem?_getD, List.getElem?_eq_getElem h1, List.getElem?_eq_getElem h2] at h3
      exact h3
    · exfalso
      apply c
      unfold anyHit
      rw [List.any_eq_true]
      exact ⟨i, by simpa using h2, h3⟩
/-- the value of a setting, behind its first '=' -/
def envHit (_ : Nat) (s : ByteArray) : Bool := decide (0 ≤ Lib.indexByte s.data.toList 61) && hasL (s.extract (Lib.indexByte s.data.toList 61 + 1).toNat s.size).data.toList
def argHit (i : Nat) (s : ByteArray) : Bool := decide (1 ≤ i) && hasL s.data.toList
theorem clone_any (a : Option Addr) (b o n c : Nat) (zs : List ByteArray) (w : World) (hz : zs.length = n) (hbig : n ≤ 1048576) (ha : 0 < n → a = some ⟨b, o, none⟩) (hn : a = none → n = 0) (hc : ∀ i, i < n → w.cell? ⟨b, o + i, none⟩ = some (.string (zs.getD i ByteArray.empty))) :
    Calls Try.prog 20 #[.slice a n c] w fun e w' => ∃ (a' : Option Addr) (c' : Nat), e = .returned (.slice a' n c') ∧ Below w.heap.size w w' ∧ (n = 0 ∨ ∃ g, a' = some ⟨g, 0, none⟩ ∧ w.heap.size ≤ g ∧ CR g n zs w') := by
  by_cases h0 : n = 0
  · subst h0
    cases a with
    | none =>
      refine (Try.slices_Clone_string_nil 0 c w).mono ?_
      rintro e w' ⟨rfl, rfl⟩
      exact ⟨none, 0, rfl, Below.refl _ _, .inl rfl⟩
    | some x =>
      refine (Try.slices_Clone_string_zero x c w).mono ?_
      rintro e w' ⟨v', rfl, ⟨_, h1⟩, _, hb⟩
      rcases h1 with ⟨rfl, _⟩ | ⟨g, cap, cur, rfl, _⟩
      · exact ⟨none, 0, rfl, hb, .inl rfl⟩
      · exact ⟨_, cap, rfl, hb, .inl rfl⟩
  · have ea := ha (by omega)
    subst ea
    refine (Try.slices_Clone_string b o n c zs w (by omega) (by omega) (fun j hj => hc j (by omega))).mono ?_
    rintro e w' ⟨v', rfl, ⟨hlen, h1⟩, _, hb⟩
    rcases h1 with ⟨_, h2⟩ | ⟨g, cap, cur, rfl, hg, hblk, hle, _, hcs, htk⟩
    · exact absurd h2 h0
    · refine ⟨_, cap, rfl, hb, .inr ⟨g, rfl, hg, hz, fun i hi => ?_, fun i => Lib.frozen_of_heap hblk i, heap_lt hblk⟩⟩
      rw [Lib.cell_of_heap hblk]
      have e1 : (cur.toList.take (n * 1))[i]? = ((zs.take n).map Value.string)[i]? := by rw [htk]
      rw [List.getElem?_take, if_pos (by omega), List.getElem?_map, List.getElem?_take, if_pos hi] at e1
      rw [← Array.getElem?_toList, e1, List.getD_eq_getElem?_getD, List.getElem?_eq_getElem (by omega)]
      rfl
end Go.Proofs.Qxb6614432a
