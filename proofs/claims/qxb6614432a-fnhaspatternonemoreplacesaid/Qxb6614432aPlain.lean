/- The plain law: a word of seven bytes in a text; the skips of its search. Nothing of the program here. -/
import Derived.Lib.Bytealg
namespace Go.Proofs.Qxb6614432a
def pat : List UInt8 := [80, 65, 84, 84, 69, 82, 78]
def occ (l : List UInt8) (m : Nat) : Prop := ∀ k, k < 7 → l[m + k]? = pat[k]?
def hasL (l : List UInt8) : Bool := (List.range l.length).any fun m => (l.drop m).take 7 == pat
theorem occ_iff (l : List UInt8) (m : Nat) : (l.drop m).take 7 = pat ↔ occ l m := by
  constructor
  · intro h k hk
    rw [← h, List.getElem?_take, if_pos hk, List.getElem?_drop]
  · intro h
    apply List.ext_getElem?
    intro k
    by_cases hk : k < 7
    · rw [List.getElem?_take, if_pos hk, List.getElem?_drop]; exact h k hk
    · rw [List.getElem?_take, if_neg hk, List.getElem?_eq_none (show pat.length ≤ k by show 7 ≤ k; omega)]
theorem occ_le {l : List UInt8} {m : Nat} (h : occ l m) : m + 7 ≤ l.length := by
  have h6 : l[m + 6]? = some 78 := h 6 (by omega)
  have := (List.getElem?_eq_some_iff.1 h6).1
  omega
theorem hasL_true {l : List UInt8} {m : Nat} (h : occ l m) : hasL l = true := by
  unfold hasL
  rw [List.any_eq_true]
  exact ⟨m, by have := occ_le h; simp; omega, by rw [beq_iff_eq]; exact (occ_iff l m).2 h⟩
theorem hasL_false {l : List UInt8} (h : ∀ m, m + 7 ≤ l.length → ¬ occ l m) : hasL l = false := by
  rw [Bool.eq_false_iff]
  intro hc
  unfold hasL at hc
  rw [List.any_eq_true] at hc
  obtain ⟨m, _, hm⟩ := hc
  rw [beq_iff_eq] at hm
  have ho := (occ_iff l m).1 hm
  exact h m (occ_le ho) ho
/-- the place of the first occurrence, or -1 -/
def fo : List UInt8 → Int
  | [] => -1
  | x :: l => if (x :: l).take 7 == pat then 0 else if fo l = -1 then -1 else fo l + 1
theorem occ_succ (x : UInt8) (l : List UInt8) (m : Nat) : occ (x :: l) (m + 1) ↔ occ l m := by
  unfold occ
  constructor
  · intro h k hk
    have := h k hk
    rw [show m + 1 + k = (m + k) + 1 by omega, List.getElem?_cons_succ] at this
    exact this
  · intro h k hk
    rw [show m + 1 + k = (m + k) + 1 by omega, List.getElem?_cons_succ]
    exact h k hk
theorem occ_zero (l : List UInt8) : occ l 0 ↔ (l.take 7 == pat) = true := by
  rw [beq_iff_eq]
  have := occ_iff l 0
  rw [List.drop_zero] at this
  exact this.symm
theorem fo_some : ∀ (l : List UInt8) (m : Nat), occ l m → (∀ m', m' < m → ¬ occ l m') → fo l = m
  | [], m, h, _ => by have := occ_le h; simp at this
  | x :: l, 0, h, _ => by
    have := (occ_zero _).1 h
    unfold fo; rw [if_pos this]; rfl
  | x :: l, m + 1, h, hno => by
    have h0 : ¬ ((x :: l).take 7 == pat) = true := fun e => hno 0 (by omega) ((occ_zero _).2 e)
    have ih := fo_some l m ((occ_succ x l m).1 h) (fun m' hm ho => hno (m' + 1) (by omega) ((occ_succ x l m').2 ho))
    unfold fo; rw [if_neg h0, ih, if_neg (by omega)]; omega
theorem fo_none : ∀ (l : List UInt8), (∀ m, ¬ occ l m) → fo l = -1
  | [], _ => rfl
  | x :: l, hno => by
    have h0 : ¬ ((x :: l).take 7 == pat) = true := fun e => hno 0 ((occ_zero _).2 e)
    have ih := fo_none l (fun m' ho => hno (m' + 1) ((occ_succ x l m').2 ho))
    unfold fo; rw [if_neg h0, ih, if_pos rfl]
/-- what the search's answer says -/
theorem fo_cases (l : List UInt8) : (fo l = -1 ∧ hasL l = false) ∨ ∃ m : Nat, fo l = m ∧ m + 7 ≤ l.length ∧ hasL l = true := by
  by_cases h : ∃ m, occ l m
  · right
    obtain ⟨m, hm⟩ := h
    have key : ∀ n m, m ≤ n → occ l m → ∃ m, occ l m ∧ ∀ m', m' < m → ¬ occ l m' := by
      intro n
      induction n with
      | zero => intro m hle ho; exact ⟨m, ho, fun m' h => by omega⟩
      | succ n ih =>
        intro m hle ho
        by_cases hc : ∃ m', m' < m ∧ occ l m'
        · obtain ⟨m', h1, h2⟩ := hc
          exact ih m' (by omega) h2
        · exact ⟨m, ho, fun m' h1 h2 => hc ⟨m', h1, h2⟩⟩
    obtain ⟨m0, h0, h1⟩ := key m m (Nat.le_refl _) hm
    exact ⟨m0, fo_some l m0 h0 h1, occ_le h0, hasL_true h0⟩
  · left
    exact ⟨fo_none l fun m ho => h ⟨m, ho⟩, hasL_false fun m _ ho => h ⟨m, ho⟩⟩
def bad (c : Nat) : Int := if c = 80 then 6 else if c = 65 then 5 else if c = 84 then 3 else if c = 69 then 2 else if c = 82 then 1 else 7
def gs (j : Nat) : Int := if j = 6 then 1 else 13 - j
theorem bad_bd (c : Nat) : 1 ≤ bad c ∧ bad c ≤ 7 := by
  unfold bad
  repeat' split
  all_goals omega
theorem gs_bd (j : Nat) (h : j < 7) : 1 ≤ gs j ∧ gs j ≤ 13 := by unfold gs; split <;> omega
theorem bad_skip : ∀ (c : Fin 256) (d : Fin 7), c.val ≠ 78 → (d.val : Int) < bad c.val → pat[6 - d.val]? ≠ some (UInt8.ofNat c.val) := by decide +kernel
theorem no_last : ∀ d : Fin 7, d.val ≠ 0 → pat[6 - d.val]? ≠ some 78 := by decide
/-- A mismatch at place j of the window at m, the places behind j matched: no occurrence begins between m and the next window. -/
theorem shift {l : List UInt8} {m j : Nat} (hj : j < 7) (c : UInt8) (hc : l[m + j]? = some c) (hne : pat[j]? ≠ some c) (hm : ∀ k, j < k → k < 7 → l[m + k]? = pat[k]?)
    (m' : Nat) (h1 : m ≤ m') (h2 : (m' : Int) < m + j + max (bad c.toNat) (gs j) - 6) : ¬ occ l m' := by
  intro ho
  have hb := bad_bd c.toNat
  by_cases e : j = 6
  · subst e
    have hg : gs 6 = 1 := rfl
    rw [hg, Int.max_eq_left hb.1] at h2
    have hd : m' - m < 7 := by omega
    have h6 := ho (6 - (m' - m)) (by omega)
    rw [show m' + (6 - (m' - m)) = m + 6 by omega, hc] at h6
    have hcl : c.toNat < 256 := c.toNat_lt
    have hc78 : c.toNat ≠ 78 := by
      intro e78
      apply hne
      show some 78 = some c
      rw [show c = 78 from UInt8.toNat_inj.1 e78]
    exact bad_skip ⟨c.toNat, hcl⟩ ⟨m' - m, hd⟩ hc78 (by show ((m' - m : Nat) : Int) < bad c.toNat; omega) (by show pat[6 - (m' - m)]? = some (UInt8.ofNat c.toNat); rw [← h6]; simp)
  · have hg : gs j = 13 - j := by unfold gs; rw [if_neg e]
    rw [hg, Int.max_eq_right (by omega)] at h2
    have h78 : l[m + 6]? = some 78 := hm 6 (by omega) (by omega)
    by_cases e0 : m' = m
    · subst e0
      have := ho j hj
      rw [hc] at this
      exact hne this.symm
    · have hd : m' - m < 7 := by omega
      have h6 := ho (6 - (m' - m)) (by omega)
      rw [show m' + (6 - (m' - m)) = m + 6 by omega, h78] at h6
      exact no_last ⟨m' - m, hd⟩ (by show m' - m ≠ 0; omega) h6.symm
end Go.Proofs.Qxb6614432a
