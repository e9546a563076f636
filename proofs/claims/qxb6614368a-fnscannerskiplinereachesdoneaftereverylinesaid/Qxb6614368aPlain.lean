/- The plain law: lines of a text of bytes, counted by newlines and by the tail behind the last one. Nothing of the program here. -/
import Derived.Lib.BytesEntry
namespace Go.Proofs.Qxb6614368a
def cnt (t : List Int) : Nat := t.count 10
def tl (t : List Int) : Nat := match t.getLast? with
  | none => 0
  | some x => if x = 10 then 0 else 1
def lns (t : List Int) : Nat := cnt t + tl t
theorem cnt_nil : cnt [] = 0 := rfl
theorem lns_nil : lns [] = 0 := rfl
theorem cnt_cons (x : Int) (l : List Int) : cnt (x :: l) = (if x = 10 then 1 else 0) + cnt l := by
  unfold cnt; rw [List.count_cons]; simp only [beq_iff_eq]; omega
theorem lns_le (t : List Int) : lns t ≤ t.length := by
  rcases List.eq_nil_or_concat t with rfl | ⟨l, x, rfl⟩
  · exact Nat.le_refl _
  · unfold lns cnt tl
    have h := List.count_le_length (a := (10 : Int)) (l := l)
    simp [List.count_append, List.count_cons]
    split <;> omega
theorem byte10 (x : Int) (h : 0 ≤ x ∧ x ≤ 255) : (UInt8.ofNat x.toNat == 10) = decide (x = 10) := by
  rw [Bool.eq_iff_iff]
  simp only [beq_iff_eq, decide_eq_true_eq]
  constructor
  · intro e
    have e' := congrArg UInt8.toNat e
    simp at e'
    omega
  · rintro rfl; rfl
theorem idx_cases : ∀ (t : List Int), (∀ n ∈ t, 0 ≤ n ∧ n ≤ 255) →
    (Lib.indexByte (Lib.bytesOf t) 10 = -1 ∧ cnt t = 0) ∨
      ∃ k : Nat, k < t.length ∧ Lib.indexByte (Lib.bytesOf t) 10 = k ∧ cnt t = 1 + cnt (t.drop (k + 1)) ∧ t[k]? = some 10
  | [], _ => .inl ⟨rfl, rfl⟩
  | x :: l, h => by
    have hx := h x (by simp)
    have ih := idx_cases l (fun n hn => h n (by simp [hn]))
    have e : Lib.indexByte (Lib.bytesOf (x :: l)) 10 = if decide (x = 10) then 0 else if Lib.indexByte (Lib.bytesOf l) 10 == -1 then -1 else Lib.indexByte (Lib.bytesOf l) 10 + 1 := by
      rw [← byte10 x hx]; rfl
    by_cases c : x = 10
    · right
      exact ⟨0, by simp, by rw [e]; simp [c], by rw [cnt_cons, if_pos c]; rfl, by simp [c]⟩
    · rw [cnt_cons, if_neg c, e]
      rcases ih with ⟨i1, i2⟩ | ⟨k, k1, k2, k3, k4⟩
      · left
        exact ⟨by simp [c, i1], by omega⟩
      · right
        refine ⟨k + 1, by simp; omega, ?_, by simpa using k3, by simpa using k4⟩
        rw [k2]
        simp [c]
theorem tl_drop (t : List Int) (k : Nat) (h : k < t.length) (hk : t[k]? = some 10) : tl t = tl (t.drop (k + 1)) := by
  by_cases e : k + 1 = t.length
  · rw [List.drop_of_length_le (by omega)]
    have : t.getLast? = some 10 := by rw [List.getLast?_eq_getElem?, ← e]; exact hk
    unfold tl; rw [this]; rfl
  · unfold tl
    rw [List.getLast?_drop, if_neg (by omega)]
theorem lns_drop (t : List Int) (k : Nat) (h : k < t.length) (hk : t[k]? = some 10) (hc : cnt t = 1 + cnt (t.drop (k + 1))) : lns t = 1 + lns (t.drop (k + 1)) := by
  unfold lns; rw [tl_drop t k h hk, hc]; omega
theorem lns_none (t : List Int) (h : t ≠ []) (hc : cnt t = 0) : lns t = 1 := by
  rcases List.eq_nil_or_concat t with rfl | ⟨l, x, rfl⟩
  · exact absurd rfl h
  · unfold lns tl
    rw [hc]
    have hx : x ≠ 10 := by
      intro e; subst e
      unfold cnt at hc
      simp at hc
    simp [hx]
theorem lns_pos (t : List Int) (h : t ≠ []) : 1 ≤ lns t := by
  by_cases c : cnt t = 0
  · rw [lns_none t h c]; exact Nat.le_refl _
  · unfold lns; omega
theorem tl_last (z : List Int) (p : Nat) (h : p < z.length) : tl (z.drop p) = if z.getD (z.length - 1) 0 = 10 then 0 else 1 := by
  unfold tl
  rw [List.getLast?_drop, if_neg (by omega), List.getLast?_eq_getElem?, List.getElem?_eq_getElem (by omega), List.getD_eq_getElem?_getD, List.getElem?_eq_getElem (by omega)]
  rfl
theorem cnt_step (z : List Int) (j : Nat) (h : j < z.length) : cnt (z.drop j) = (if z[j] = 10 then 1 else 0) + cnt (z.drop (j + 1)) := by
  rw [List.drop_eq_getElem_cons h, cnt_cons]
/-- one skipLine, no newline left -/
theorem skip1 {z : List Int} {p s L : Nat} (hp : p < z.length) (hs : s + lns (z.drop p) = L) (hc : cnt (z.drop p) = 0) : s + 1 + lns (z.drop z.length) = L := by
  rw [lns_none (z.drop p) (by simp; omega) hc] at hs
  rw [List.drop_of_length_le (Nat.le_refl _), lns_nil]; omega
theorem skip2 {z : List Int} {p k s L : Nat} (hk : k < (z.drop p).length) (h10 : (z.drop p)[k]? = some 10) (hc : cnt (z.drop p) = 1 + cnt ((z.drop p).drop (k + 1))) (hs : s + lns (z.drop p) = L) :
    s + 1 + lns (z.drop (p + (k + 1))) = L := by
  rw [lns_drop _ k hk h10 hc, List.drop_drop] at hs; omega
theorem skip3 {z : List Int} {p k : Nat} (hc : cnt (z.drop p) = 1 + cnt ((z.drop p).drop (k + 1))) : cnt (z.drop p) = 1 + cnt (z.drop (p + (k + 1))) := by
  rw [hc, List.drop_drop]
end Go.Proofs.Qxb6614368a
