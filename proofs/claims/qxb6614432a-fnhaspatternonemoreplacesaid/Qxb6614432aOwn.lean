/- The law's early endings; the plain law of one more place; rows of the law's own. -/
import Derived.Test.Qxb6614432aTests
import Derived.WalkSpells
import Derived.Outline
namespace Go.Proofs.Qxb6614432a
open Go.ChangeShapes Go.WideShapes Go.ChangeAt Go.RowKit Go.Deep
set_option linter.unusedVariables false
theorem lt_of_cell {w : World} {a : Addr} {v : Value} (h : w.cell? a = some v) : a.block < w.heap.size := by
  rcases Nat.lt_or_ge a.block w.heap.size with k | k
  · exact k
  · have : w.heap[a.block]? = none := Array.getElem?_eq_none k
    simp [World.cell?, this] at h
theorem InS.row {w : World} {a : Option Addr} {b o n : Nat} {ys : List ByteArray} (h : InS w a b o n ys) (hb : n ≤ 1048576) (hs : ∀ i, i < n → (ys.getD i ByteArray.empty).size ≤ 1048576) : InRow w a b o n ys :=
  ⟨h.len, hb, h.adr, h.nil, h.cell, fun hn => lt_of_cell (h.cell 0 hn), fun i => by
    by_cases c : i < n
    · exact hs i c
    · rw [List.getD_eq_getElem?_getD, List.getElem?_eq_none (by rw [h.len]; omega)]
      show ByteArray.empty.size ≤ _
      decide⟩
set_option maxRecDepth 20000 in
set_option maxHeartbeats 2000000 in
theorem early5 (ae aa : Option Addr) (be oe le ce ba oa la ca : Nat) (es gs1 : List ByteArray) (i j : Int) (a e : ByteArray) (w : World) (hE : Hid (InS w ae be oe le es)) (hA : Hid (InS w aa ba oa la gs1))
    (h : i < 1 ∨ (la : Int) < i ∨ j < 0 ∨ (le : Int) < j) :
    Calls Try.prog 5 #[.slice ae le ce, .slice aa la ca, .int .i64 i, .string a, .int .i64 j, .string e] w fun en w' => en = .returned (.bool true) ∧ Below w.heap.size w w' := by
  have H : Hid (i < 1 ∨ (la : Int) < i ∨ j < 0 ∨ (le : Int) < j) := h
  clear h
  go_enter Try.func5, Try.ntmps5
  go_wp2_with fail
  refine (zz_any ae aa be oe le ce ba oa la ca es gs1 i j a e w hE hA).mono ?_
  rintro en w' ⟨ok, rfl, rfl, hok⟩
  cases ok with
  | false =>
    go_wp2
    go_ret
    exact ⟨rfl, Below.refl _ _⟩
  | true =>
    obtain ⟨h1, h2, h3, h4, h5, h6⟩ := hok rfl
    have H3 : Hid (∀ i, i < le → (es.getD i ByteArray.empty).size ≤ 1048576) := h3
    have H4 : Hid (∀ i, i < la → (gs1.getD i ByteArray.empty).size ≤ 1048576) := h4
    clear h3 h4 hok
    go_wp2_with fail
    refine (text_any ae aa be oe le ce ba oa la ca es gs1 w hE hA h1 h2 H3 H4).mono ?_
    rintro en w' ⟨n, ok, rfl, rfl, hn, _⟩
    cases ok with
    | false =>
      go_wp2
      go_ret
      exact ⟨rfl, Below.refl _ _⟩
    | true =>
      go_wp2_with fail
      all_goals first
        | (exfalso; have hh := H.out; omega)
        | (go_ret; exact ⟨rfl, Below.refl _ _⟩)
theorem make0 (w : World) (n : Nat) (h : n ≤ 1048576) : (Instr.makeSlice 22 (.int .i64 0) (.int .i64 ((n : Int) + 1))).run Try.prog w = .ok (.slice (some ⟨w.heap.size, 0, none⟩) 0 (n + 1)) (w.alloc (.cells (madeCells #[.string ⟨#[]⟩] (n + 1)) 9)) := by
  obtain ⟨i0, hi, hz0, hz1, hz2⟩ := info_parts (show (Try.prog.info? 9).map (fun i => (i.zero, i.size, i.bytes)) = some (some (.string ⟨#[]⟩), 1, 16) by kernel_rfl)
  have hr := run_make (P := Try.prog) w 22 9 i0 (.string ⟨#[]⟩) Try.underlying22 hi hz0 .i64 .i64 0 ((n : Int) + 1) (by omega) (by omega) (by rw [hz2]; omega) (by omega)
  rw [hr, hz1, show ((n : Int) + 1).toNat = n + 1 by omega, Nat.mul_one]
  rfl
/-- the row behind so many appends: a list of strings -/
def strV (l : List ByteArray) : List Value := l.map Value.string
theorem strV_snoc (l : List ByteArray) (x : ByteArray) : strV l ++ [.string x] = strV (l ++ [x]) := by simp [strV]
theorem take_snoc (l : List ByteArray) (k : Nat) (h : k < l.length) : l.take k ++ [l.getD k ByteArray.empty] = l.take (k + 1) := by
  rw [List.take_succ_eq_append_getElem h, List.getD_eq_getElem?_getD, List.getElem?_eq_getElem h]; rfl
/-- the list with x put in at k, as far as place m -/
def insK (l : List ByteArray) (x : ByteArray) (k m : Nat) : List ByteArray := l.take k ++ x :: (l.drop k).take (m - k)
theorem insK_self (l : List ByteArray) (x : ByteArray) (k : Nat) : insK l x k k = l.take k ++ [x] := by simp [insK]
theorem insK_snoc (l : List ByteArray) (x : ByteArray) (k m : Nat) (h1 : k ≤ m) (h2 : m < l.length) : insK l x k m ++ [l.getD m ByteArray.empty] = insK l x k (m + 1) := by
  unfold insK
  rw [List.append_assoc, List.cons_append]
  congr 2
  rw [show m + 1 - k = (m - k) + 1 by omega, List.take_succ_eq_append_getElem (by simp; omega), List.getElem_drop, List.getD_eq_getElem?_getD, List.getElem?_eq_getElem h2]
  congr 2
  have : k + (m - k) = m := by omega
  simp [this]
theorem insK_full (l : List ByteArray) (x : ByteArray) (k : Nat) : insK l x k l.length = l.take k ++ x :: l.drop k := by
  have h : (l.drop k).take (l.length - k) = l.drop k := List.take_of_length_le (by simp)
  unfold insK
  rw [h]
theorem owns_CR {N n : Nat} {v : Value} {l : List ByteArray} {w : World} (h : w.ownsRow N 9 1 v (n + 1) (strV l)) : ∃ g cap, v = .slice (some ⟨g, 0, none⟩) (n + 1) cap ∧ N ≤ g ∧ CR g (n + 1) l w := by
  obtain ⟨hl, ⟨_, h0⟩ | ⟨g, cap, cur, hv, hg, hblk, hle, _, hcs, htk⟩⟩ := h
  · omega
  · have hlen : l.length = n + 1 := by simpa [strV] using hl
    refine ⟨g, cap, hv, hg, hlen, fun i hi => ?_, fun i => Lib.frozen_of_heap hblk i, heap_lt hblk⟩
    rw [Lib.cell_of_heap hblk]
    have e1 : (cur.toList.take ((n + 1) * 1))[i]? = (strV l)[i]? := by rw [htk]
    rw [List.getElem?_take, if_pos (by omega), strV, List.getElem?_map] at e1
    rw [← Array.getElem?_toList, e1, List.getD_eq_getElem?_getD, List.getElem?_eq_getElem (by omega)]
    rfl
/-- one append's world: new blocks, the row grown -/
theorem app_below {N : Nat} {w wr w1 : World} {v : Value} {k : Nat} {xs : List Value} (hB : Below N w wr) (hN : N ≤ wr.heap.size) (hown : wr.ownsRow N 9 1 v k xs) (o : Obj) (hg : (wr.alloc o).grownBy w1 v.ownBlock) : Below N w w1 ∧ N ≤ w1.heap.size := by
  have h1 := (hB.alloc hN o).grown hg (by simp; omega) (fun k hk => (hown.lt k hk).1)
  have h2 := hg.size
  simp at h2
  exact ⟨h1, by omega⟩

theorem CR.below {g n B : Nat} {ys : List ByteArray} {w w' : World} (h : CR g n ys w) (hb : Below B w w') (hg : g < B) : CR g n ys w' :=
  ⟨h.len, fun i hi => by rw [hb.cell (p := ⟨g, i, none⟩) hg]; exact h.cell i hi, fun i => by
    have e : w'.heap[g]? = w.heap[g]? := hb.block g hg
    rw [World.frozen?_of_block (w := w) (a := ⟨g, i, none⟩) e]; exact h.froz i, Nat.lt_of_lt_of_le h.lt hb.size⟩
/-- a row of the law's own, as a row that is handed in -/
theorem CR.row {g n : Nat} {ys : List ByteArray} {w : World} (h : CR g (n + 1) ys w) (hb : n + 1 ≤ 1048576) (hs : ∀ i, (ys.getD i ByteArray.empty).size ≤ 1048576) : InRow w (some ⟨g, 0, none⟩) g 0 (n + 1) ys :=
  ⟨h.len, hb, fun _ => rfl, fun h => (by cases h), fun i hi => by rw [Nat.zero_add]; exact h.cell i hi, fun _ => h.lt, hs⟩
theorem ins_small {l : List ByteArray} {x : ByteArray} (k : Nat) (hl : ∀ i, (l.getD i ByteArray.empty).size ≤ 1048576) (hx : x.size ≤ 1048576) : ∀ i, ((insK l x k l.length).getD i ByteArray.empty).size ≤ 1048576 := by
  rw [insK_full]
  have hm : ∀ y ∈ l, y.size ≤ 1048576 := by
    intro y hy
    obtain ⟨i, hi, rfl⟩ := List.getElem_of_mem hy
    have := hl i
    rw [List.getD_eq_getElem?_getD, List.getElem?_eq_getElem hi] at this
    exact this
  intro i
  rw [List.getD_eq_getElem?_getD]
  cases e : (l.take k ++ x :: l.drop k)[i]? with
  | none => show ByteArray.empty.size ≤ _; decide
  | some y =>
    have hy := List.mem_of_getElem? e
    show y.size ≤ _
    rcases List.mem_append.1 hy with h | h
    · exact hm y (List.mem_of_mem_take h)
    · rcases List.mem_cons.1 h with rfl | h
      · exact hx
      · exact hm y (List.mem_of_mem_drop h)
theorem anyHit_iff (hit : Nat → ByteArray → Bool) (l : List ByteArray) : anyHit hit l = true ↔ ∃ i y, l[i]? = some y ∧ hit i y = true := by
  unfold anyHit
  rw [List.any_eq_true]
  constructor
  · rintro ⟨i, hi, h⟩
    have hi' : i < l.length := by simpa using hi
    rw [List.getD_eq_getElem?_getD, List.getElem?_eq_getElem hi'] at h
    exact ⟨i, l[i], List.getElem?_eq_getElem hi', h⟩
  · rintro ⟨i, y, hy, h⟩
    refine ⟨i, by simpa using (List.getElem?_eq_some_iff.1 hy).1, ?_⟩
    rw [List.getD_eq_getElem?_getD, hy]
    exact h
/-- THE PLAIN LAW: one more place hits where a place did or where it does itself -/
theorem ins_hit (hit : Nat → ByteArray → Bool) (l : List ByteArray) (x : ByteArray) (k : Nat) (hk : k ≤ l.length) (f : ByteArray → Bool) (b : Nat) (hb : b ≤ k) (h0 : ∀ i y, i < b → hit i y = false) (h1 : ∀ i y, b ≤ i → hit i y = f y) :
    anyHit hit (insK l x k l.length) = (anyHit hit l || f x) := by
  rw [insK_full, Bool.eq_iff_iff, Bool.or_eq_true, anyHit_iff, anyHit_iff]
  have ht : (l.take k).length = k := by simp; omega
  constructor
  · rintro ⟨i, y, hy, h⟩
    by_cases c : i < k
    · left
      rw [List.getElem?_append_left (by omega), List.getElem?_take, if_pos c] at hy
      exact ⟨i, y, hy, h⟩
    · rw [List.getElem?_append_right (by omega), ht] at hy
      by_cases c2 : i = k
      · subst c2
        rw [Nat.sub_self] at hy
        right
        have : x = y := by simpa using hy
        rw [this, ← h1 i y hb]; exact h
      · left
        obtain ⟨m, hm⟩ : ∃ m, i - k = m + 1 := ⟨i - k - 1, by omega⟩
        rw [hm, List.getElem?_cons_succ, List.getElem?_drop] at hy
        refine ⟨k + m, y, hy, ?_⟩
        rw [h1 _ _ (by omega)]
        rw [h1 _ _ (by omega)] at h
        exact h
  · rintro (⟨i, y, hy, h⟩ | h)
    · by_cases c : i < k
      · refine ⟨i, y, ?_, h⟩
        rw [List.getElem?_append_left (by omega), List.getElem?_take, if_pos c]; exact hy
      · refine ⟨i + 1, y, ?_, ?_⟩
        · rw [List.getElem?_append_right (by omega), ht, show i + 1 - k = (i - k) + 1 by omega, List.getElem?_cons_succ, List.getElem?_drop, show k + (i - k) = i by omega]; exact hy
        · rw [h1 _ _ (by omega)]
          rw [h1 _ _ (by omega)] at h
          exact h
    · refine ⟨k, x, ?_, ?_⟩
      · rw [List.getElem?_append_right (by omega), ht, Nat.sub_self]; rfl
      · rw [h1 _ _ hb]; exact h
theorem arg_ins (l : List ByteArray) (x : ByteArray) (k : Nat) (h1 : 1 ≤ k) (hk : k ≤ l.length) : anyHit argHit (insK l x k l.length) = (anyHit argHit l || hasL x.data.toList) :=
  ins_hit argHit l x k hk (fun x => hasL x.data.toList) 1 h1 (fun i y h => by unfold argHit; rw [decide_eq_false (by omega)]; rfl) (fun i y h => by unfold argHit; rw [decide_eq_true h]; rfl)
theorem env_ins (l : List ByteArray) (x : ByteArray) (k : Nat) (hk : k ≤ l.length) : anyHit envHit (insK l x k l.length) = (anyHit envHit l || envHit 0 x) :=
  ins_hit envHit l x k hk (envHit 0) 0 (Nat.zero_le _) (fun i y h => by omega) (fun i y h => rfl)
end Go.Proofs.Qxb6614432a
