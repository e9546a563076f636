/- The contract of (*Command).HasPattern. -/
import Derived.Test.Qxb6614432aExpand

namespace Go.Proofs.Qxb6614432a
open Go.ChangeShapes Go.WideShapes Go.ChangeAt Go.RowKit Go.Deep
set_option linter.unusedVariables false
theorem ret_b {a b : Bool} (h : a = b) : Ending.returned (.bool a) = .returned (.bool b) := by rw [h]
/-- slices.Equal of a row of the call's own and a row that came in -/
theorem equal_any (a1 a2 : Option Addr) (g b o n c d : Nat) (xs ys : List ByteArray) (w : World) (hn : n ≤ 1048576) (hx : xs.length = n) (hy : ys.length = n)
    (h1 : 0 < n → a1 = some ⟨g, 0, none⟩ ∧ ∀ i, i < n → w.cell? ⟨g, i, none⟩ = some (.string (xs.getD i ByteArray.empty)))
    (h2 : 0 < n → a2 = some ⟨b, o, none⟩ ∧ ∀ i, i < n → w.cell? ⟨b, o + i, none⟩ = some (.string (ys.getD i ByteArray.empty))) :
    Calls Try.prog 17 #[.slice a1 n c, .slice a2 n d] w fun e w' => e = .returned (.bool (decide (xs = ys))) ∧ ∃ q, w' = w.drewN q := by
  by_cases h0 : n = 0
  · subst h0
    refine (Try.slices_Equal_string_empty a1 a2 c 0 d w (by omega)).mono ?_
    rintro e w' ⟨rfl, rfl⟩
    rw [List.length_eq_zero_iff.1 hx, List.length_eq_zero_iff.1 hy]
    exact ⟨rfl, 0, rfl⟩
  · obtain ⟨rfl, k1⟩ := h1 (by omega)
    obtain ⟨rfl, k2⟩ := h2 (by omega)
    have h := Try.slices_Equal_string g 0 n c b o n d xs ys w (by omega) (by omega) (by omega) (by omega) (fun j hj => by rw [Nat.zero_add]; exact k1 j (by omega)) (fun j hj => k2 j (by omega))
    rw [List.take_of_length_le (by omega), List.take_of_length_le (by omega)] at h
    exact h
/-- what the law is told of a []string that came in -/
structure InRow (w : World) (a : Option Addr) (b o n : Nat) (ys : List ByteArray) : Prop where
  len : ys.length = n
  big : n ≤ 1048576
  adr : 0 < n → a = some ⟨b, o, none⟩
  nil : a = none → n = 0
  cell : ∀ i, i < n → w.cell? ⟨b, o + i, none⟩ = some (.string (ys.getD i ByteArray.empty))
  lt : 0 < n → b < w.heap.size
  small : ∀ i, (ys.getD i ByteArray.empty).size ≤ 1048576
theorem InRow.below {w w' : World} {a : Option Addr} {b o n B : Nat} {ys : List ByteArray} (h : InRow w a b o n ys) (hb : Below B w w') (hB : w.heap.size ≤ B) : InRow w' a b o n ys :=
  ⟨h.len, h.big, h.adr, h.nil, fun i hi => by have := h.lt (by omega); rw [hb.cell (p := ⟨b, o + i, none⟩) (by show b < B; omega)]; exact h.cell i hi, fun hn => Nat.lt_of_lt_of_le (h.lt hn) hb.size, h.small⟩
set_option maxRecDepth 20000 in
set_option maxHeartbeats 4000000 in
theorem hasPattern_any (C : Nat) (ae aa : Option Addr) (be oe le ce ba oa la ca : Nat) (es gs1 : List ByteArray) (w : World) (hC : C < w.heap.size)
    (c0 : Hid (w.cell? ⟨C, 0, none⟩ = some (.slice ae le ce))) (c1 : Hid (w.cell? ⟨C, 1, none⟩ = some (.slice aa la ca)))
    (hE : Hid (InRow w ae be oe le es)) (hA : Hid (InRow w aa ba oa la gs1)) :
    Calls Try.prog 13 #[.pointer (some ⟨C, 0, none⟩)] w fun e w' => e = .returned (.bool (anyHit envHit es || anyHit argHit gs1)) ∧ Below w.heap.size w w' := by
  go_enter Try.func13, Try.ntmps13
  go_wp2_with fail
  refine (new_any w.heap.size _ (by go_simp) (by go_simp)).mono ?_
  rintro e w1 ⟨R, rfl, hB1, hRS, hRl⟩
  have hb0 : Below w.heap.size w (w.alloc (Obj.cells #[Value.string ⟨#[80, 65, 84, 84, 69, 82, 78]⟩, Value.string ⟨#[]⟩] 9)) := (Below.refl _ _).alloc (Nat.le_refl _) _
  have HB1 : Hid (Below w.heap.size w w1) := hb0.trans (hB1.mono (by simp))
  have HRS : Hid (RS R (fun _ => False) w1) := hRS
  have hR1 : w.heap.size + 1 ≤ R := by simpa using hRl
  have HE1 : Hid (InRow w1 ae be oe le es) := hE.out.below HB1.out (Nat.le_refl _)
  have HA1 : Hid (InRow w1 aa ba oa la gs1) := hA.out.below HB1.out (Nat.le_refl _)
  have HC1 : Hid (C < w1.heap.size) := Nat.lt_of_lt_of_le hC HB1.out.size
  clear hb0 hB1 hRS hRl
  go_wp2_with fail
  refine (expand_any C R ae aa be oe le ce ba oa la ca es gs1 _ HRS HC1.out (by omega) (by show _ = _; rw [HB1.out.cell (p := ⟨C, 0, none⟩) hC]; exact c0.out) (by show _ = _; rw [HB1.out.cell (p := ⟨C, 1, none⟩) hC]; exact c1.out)
    HE1.out.len HA1.out.len hE.out.big hA.out.big HE1.out.adr HA1.out.adr HA1.out.nil HE1.out.cell HA1.out.cell (fun h => ⟨HE1.out.lt h, by have := hE.out.lt h; omega⟩) (fun h => ⟨HA1.out.lt h, by have := hA.out.lt h; omega⟩) HE1.out.small HA1.out.small).mono ?_
  rintro e w2 ⟨E, a', c', xs, ys, rfl, hF2, hX, hRx, hY, hRy⟩
  have HB2 : Hid (Below w.heap.size w w2) := HB1.out.trans (hF2.below (by omega) HB1.out.size)
  have HX : Hid (CR E le xs w2) := hX
  have HY : Hid ((la = 0 ∧ ys = []) ∨ ∃ g, a' = some ⟨g, 0, none⟩ ∧ CR g la ys w2) := hY
  have hRE : Hid (decide (xs = es) = !anyHit envHit es) := RelK.eq (by rw [hE.out.len]; exact hRx) (by rw [hX.len, hE.out.len])
  have hyl : ys.length = la := by
    rcases hY with ⟨h1, h2⟩ | ⟨g, _, h⟩
    · rw [h1, h2]; rfl
    · exact h.len
  have hRA : Hid (decide (ys = gs1) = !anyHit argHit gs1) := RelK.eq (by rw [hA.out.len]; exact hRy) (by rw [hyl, hA.out.len])
  have HYL : Hid (ys.length = la) := hyl
  have HE2 : Hid (InRow w2 ae be oe le es) := hE.out.below HB2.out (Nat.le_refl _)
  have HA2 : Hid (InRow w2 aa ba oa la gs1) := hA.out.below HB2.out (Nat.le_refl _)
  have hc0 : w2.cell? ⟨C, 0, none⟩ = some (.slice ae le ce) := by rw [HB2.out.cell (p := ⟨C, 0, none⟩) hC]; exact c0.out
  have hc1 : w2.cell? ⟨C, 1, none⟩ = some (.slice aa la ca) := by rw [HB2.out.cell (p := ⟨C, 1, none⟩) hC]; exact c1.out
  clear hF2 hX hRx hY hRy hyl HE1 HA1 HC1 HRS HB1
  have hq := equal_any (some ⟨E, 0, none⟩) ae E be oe le le ce xs es w2 hE.out.big HX.out.len hE.out.len (fun h => ⟨rfl, HX.out.cell⟩) (fun h => ⟨HE2.out.adr h, HE2.out.cell⟩)
  rw [hRE.out] at hq
  have HQ := hq
  cases hce : anyHit envHit es with
  | true =>
    rw [hce] at HQ
    have HH : Hid (Calls Try.prog 17 #[.slice (some ⟨E, 0, none⟩) le le, .slice ae le ce] w2 fun e w' => e = .returned (.bool false) ∧ ∃ q, w' = w2.drewN q) := HQ
    clear HQ hq
    have HCE : Hid (anyHit envHit es = true) := hce
    clear hce
    go_wp2_with fail
    refine HH.out.mono ?_
    rintro e w3 ⟨rfl, q, rfl⟩
    go_wp2
    go_ret
    exact ⟨ret_b (by rw [HCE.out]; rfl), below_drewN HB2.out _⟩
  | false =>
    rw [hce] at HQ
    have HH : Hid (Calls Try.prog 17 #[.slice (some ⟨E, 0, none⟩) le le, .slice ae le ce] w2 fun e w' => e = .returned (.bool true) ∧ ∃ q, w' = w2.drewN q) := HQ
    clear HQ hq
    have HCE : Hid (anyHit envHit es = false) := hce
    clear hce
    have hqa : ∀ q, Calls Try.prog 17 #[.slice a' la c', .slice aa la ca] (w2.drewN q) fun e w' => e = .returned (.bool (!anyHit argHit gs1)) ∧ ∃ q', w' = (w2.drewN q).drewN q' := fun q => by
      rw [← hRA.out]
      rcases HY.out with ⟨h1, h2⟩ | ⟨g, h1, h2⟩
      · exact equal_any a' aa 0 ba oa la c' ca ys gs1 (w2.drewN q) hA.out.big HYL.out hA.out.len (fun h => absurd h1 (by omega)) (fun h => absurd h1 (by omega))
      · exact equal_any a' aa g ba oa la c' ca ys gs1 (w2.drewN q) hA.out.big HYL.out hA.out.len (fun h => ⟨h1, h2.cell⟩) (fun h => ⟨HA2.out.adr h, HA2.out.cell⟩)
    have HQA : Hid (∀ q, Calls Try.prog 17 #[.slice a' la c', .slice aa la ca] (w2.drewN q) fun e w' => e = .returned (.bool (!anyHit argHit gs1)) ∧ ∃ q', w' = (w2.drewN q).drewN q') := hqa
    clear hqa
    obtain ⟨B, hBB⟩ : ∃ B, Hid (anyHit argHit gs1 = B) := ⟨anyHit argHit gs1, show _ = _ from rfl⟩
    rw [hBB.out] at HQA
    go_wp2_with fail
    refine HH.out.mono ?_
    rintro e w3 ⟨rfl, q, rfl⟩
    go_wp2_with fail
    refine (HQA.out _).mono ?_
    rintro e w3 ⟨rfl, q', rfl⟩
    go_wp2
    go_ret
    exact ⟨ret_b (by rw [HCE.out, hBB.out]; simp), below_drewN HB2.out _⟩
end Go.Proofs.Qxb6614432a
