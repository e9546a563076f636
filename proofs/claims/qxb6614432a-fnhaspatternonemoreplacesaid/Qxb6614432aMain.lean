/- The law's main road: the two rows with one more place, both answers, the comparison. -/
import Derived.Test.Qxb6614432aOwn
import Derived.WalkSpells
namespace Go.Proofs.Qxb6614432a
open Go.ChangeShapes Go.WideShapes Go.ChangeAt Go.RowKit Go.Deep
set_option linter.unusedVariables false
theorem hasPattern_is (p : Bool) (C : Nat) (ae aa : Option Addr) (be oe le ce ba oa la ca : Nat) (es gs1 : List ByteArray) (w : World) (hp : Hid ((anyHit envHit es || anyHit argHit gs1) = p)) (hC : C < w.heap.size)
    (c0 : Hid (w.cell? ⟨C, 0, none⟩ = some (.slice ae le ce))) (c1 : Hid (w.cell? ⟨C, 1, none⟩ = some (.slice aa la ca)))
    (hE : Hid (InRow w ae be oe le es)) (hA : Hid (InRow w aa ba oa la gs1)) :
    Calls Try.prog 13 #[.pointer (some ⟨C, 0, none⟩)] w fun e w' => e = .returned (.bool p) ∧ Below w.heap.size w w' := by
  have h := hasPattern_any C ae aa be oe le ce ba oa la ca es gs1 w hC c0 c1 hE hA
  rw [hp.out] at h
  exact h
theorem hasSub_is (q : Bool) (s : ByteArray) (w : World) (hq : Hid (hasL s.data.toList = q)) (hs : s.size ≤ 1048576) :
    Calls Try.prog 12 #[.string s, .string ⟨#[80, 65, 84, 84, 69, 82, 78]⟩] w fun e w' => e = .returned (.bool q) ∧ w = w' := by
  have h := hasSub_any s w hs
  rw [hq.out] at h
  exact h
theorem firstEq_is (z : Int) (s : ByteArray) (w : World) (hz : Hid (Lib.indexByte s.data.toList 61 = z)) (hs : s.size ≤ 1048576) :
    Calls Try.prog 11 #[.string s] w fun e w' => e = .returned (.int .i64 z) ∧ w = w' := by
  have h := firstEq_any s w hs
  rw [hz.out] at h
  exact h
theorem hasP_box (p : Bool) (ae aa : Option Addr) (be oe le ce ba oa la ca : Nat) (es gs1 : List ByteArray) (w : World) (v2 v3 v4 : Value) (t : Nat) (hp : Hid ((anyHit envHit es || anyHit argHit gs1) = p)) (hE : Hid (InRow w ae be oe le es)) (hA : Hid (InRow w aa ba oa la gs1)) :
    Calls Try.prog 13 #[.pointer (some ⟨w.heap.size, 0, none⟩)] (w.alloc (.cells #[.slice ae le ce, .slice aa la ca, v2, v3, v4] t)) fun e w' => e = .returned (.bool p) ∧ Below w.heap.size w w' := by
  have hb : Below w.heap.size w (w.alloc (.cells #[.slice ae le ce, .slice aa la ca, v2, v3, v4] t)) := (Below.refl _ _).alloc (Nat.le_refl _) _
  have hh : (w.alloc (.cells #[.slice ae le ce, .slice aa la ca, v2, v3, v4] t)).heap[w.heap.size]? = some (.cells #[.slice ae le ce, .slice aa la ca, v2, v3, v4] t) := by
    show (w.heap.push _)[w.heap.size]? = _
    simp
  have hs : w.heap.size < (w.alloc (.cells #[.slice ae le ce, .slice aa la ca, v2, v3, v4] t)).heap.size := by simp
  refine (hasPattern_is p w.heap.size ae aa be oe le ce ba oa la ca es gs1 _ hp hs (show _ = _ by rw [Lib.cell_of_heap hh]; rfl) (show _ = _ by rw [Lib.cell_of_heap hh]; rfl) (hE.out.below hb (Nat.le_refl _)) (hA.out.below hb (Nat.le_refl _))).mono ?_
  rintro e w' ⟨rfl, h⟩
  exact ⟨rfl, hb.trans (h.mono (Nat.le_of_lt hs))⟩
set_option maxRecDepth 20000 in
set_option maxHeartbeats 16000000 in
theorem main5 (ae aa : Option Addr) (be oe le ce ba oa la ca : Nat) (es gs1 : List ByteArray) (i j : Nat) (a e : ByteArray) (w : World) (hE : Hid (InS w ae be oe le es)) (hA : Hid (InS w aa ba oa la gs1))
    (hi1 : 1 ≤ i) (hi2 : i ≤ la) (hj : j ≤ le) :
    Calls Try.prog 5 #[.slice ae le ce, .slice aa la ca, .int .i64 i, .string a, .int .i64 j, .string e] w fun en w' => en = .returned (.bool true) ∧ Below w.heap.size w w' := by
  obtain ⟨i0, hi, hz0, hz1, hz2⟩ := info_parts (show (Try.prog.info? 9).map (fun i => (i.zero, i.size, i.bytes)) = some (some (.string ⟨#[]⟩), 1, 16) by kernel_rfl)
  go_enter Try.func5, Try.ntmps5
  go_wp2_with fail
  refine (zz_any ae aa be oe le ce ba oa la ca es gs1 i j a e w hE hA).mono ?_
  rintro en w' ⟨ok, rfl, rfl, hok⟩
  cases ok with
  | false =>
    go_wp2
    go_ret
    exact ⟨rfl, Below.refl _ _⟩
  | true =>
    obtain ⟨h1, h2, h3, h4, h5, h6⟩ := hok rfl
    have H3 : Hid (∀ i, i < le → (es.getD i ByteArray.empty).size ≤ 1048576) := h3
    have H4 : Hid (∀ i, i < la → (gs1.getD i ByteArray.empty).size ≤ 1048576) := h4
    have RE : Hid (InRow w ae be oe le es) := hE.out.row h1 h3
    have RA : Hid (InRow w aa ba oa la gs1) := hA.out.row h2 h4
    clear h3 h4 hok
    have dA : decide ((1048576 : Int) < (a.size : Int)) = false := decide_eq_false (by omega)
    have dE : decide ((1048576 : Int) < (e.size : Int)) = false := decide_eq_false (by omega)
    go_wp2_with fail
    refine (text_any ae aa be oe le ce ba oa la ca es gs1 w hE hA h1 h2 H3 H4).mono ?_
    rintro en w' ⟨n, ok, rfl, rfl, hn, hz⟩
    cases ok with
    | false =>
      go_wp2
      go_ret
      exact ⟨rfl, Below.refl _ _⟩
    | true =>
      by_cases hn2 : (n : Int) ≤ 1048576 - a.size - e.size - 32
      case neg =>
        go_wp2_with fail
        go_ret
        exact ⟨rfl, Below.refl _ _⟩
      have dN : decide ((1048576 : Int) - a.size - e.size - 32 < n) = false := decide_eq_false (by omega)
      have dI1 : decide ((i : Int) < 1) = false := decide_eq_false (by omega)
      have dI2 : decide ((la : Int) < (i : Int)) = false := decide_eq_false (by omega)
      have dI3 : decide (la < i) = false := decide_eq_false (by omega)
      have dJ1 : decide ((j : Int) < 0) = false := decide_eq_false (by omega)
      have dJ2 : decide ((le : Int) < (j : Int)) = false := decide_eq_false (by omega)
      have dJ3 : decide (le < j) = false := decide_eq_false (by omega)
      have hsum : le + la + 1 ≤ 1048576 := by have := hz rfl; omega
      clear hz H3 H4
      have hmk1 : ∀ w : World, (Instr.makeSlice 22 (.int .i64 0) (.int .i64 ((la : Int) + 1))).run Try.prog w = .ok (.slice (some ⟨w.heap.size, 0, none⟩) 0 (la + 1)) (w.alloc (.cells (madeCells #[.string ⟨#[]⟩] (la + 1)) 9)) := fun w => make0 w la h2
      go_wp2_with fail
      clear hmk1
      go_loopg [15, 16] i (fun n v x wr => ∃ k : Nat, x = .int .i64 k ∧ k + n = i ∧ Hid (Below w.heap.size w wr ∧ w.heap.size ≤ wr.heap.size) ∧ Hid (wr.ownsRow w.heap.size 9 1 v k (strV (gs1.take k))))
      case atStart => exact ⟨0, rfl, by omega, ⟨(Below.refl _ _).alloc (Nat.le_refl _) _, by simp⟩, World.ownsRow_made w _ (la + 1) (Nat.le_refl _) (by unfold maxLen; omega) (by rw [size_madeCells, Nat.mul_one])⟩
      case round =>
        obtain ⟨k, rfl, hkn, hB, hown⟩ := hrel
        by_cases hlt : k < i
        · have ea := RA.out.adr (by omega); subst ea
          obtain ⟨s, hs⟩ : ∃ s, Hid (gs1.getD k ByteArray.empty = s) := ⟨gs1.getD k ByteArray.empty, show _ = _ from rfl⟩
          have hck : wr.cell? ⟨ba, oa + k, none⟩ = some (.string s) := by rw [hB.out.1.cell (p := ⟨ba, oa + k, none⟩) (RA.out.lt (by omega)), RA.out.cell k (by omega), hs.out]
          go_wp2_with (at_builtin; refine wpList_append_own _ rfl _ _ 22 rfl w.heap.size 9 i0 (.string ⟨#[]⟩) 1 16 Try.underlying22 hi hz0 hz1 hz2 rfl (by decide) _ _ _ rfl (hown.out.alloc _) ⟨wr.heap.size, 0, none⟩ 1 1 [.string s] rfl rfl ?c1 ?c2 ?c3 ?c4 ?c5 ?_)
          case c1 => exact cell_one_new _ _ _
          case c2 => intro u hu; simp at hu; subst hu; rfl
          case c3 => unfold maxLen; omega
          case c4 => omega
          case c5 => have := hB.out.2; simp; omega
          intro v' w9 hown' hgrow _
          have HO : Hid (w9.ownsRow w.heap.size 9 1 v' (k + 1) (strV (gs1.take (k + 1)))) := by
            rw [strV_snoc, ← hs.out, take_snoc _ _ (by rw [RA.out.len]; omega)] at hown'; exact hown'
          have HB9 : Hid (Below w.heap.size w w9 ∧ w.heap.size ≤ w9.heap.size) := app_below hB.out.1 hB.out.2 hown.out _ hgrow
          clear hown' hgrow hown hB hck
          go_wp2
          go_roundg (gk - 1)
          case measure => omega
          case rel => exact ⟨k + 1, by go_num, by omega, HB9, HO⟩
        · obtain rfl : i = k := by omega
          go_wp2_with (at_builtin; refine wpList_append_own _ rfl _ _ 22 rfl w.heap.size 9 i0 (.string ⟨#[]⟩) 1 16 Try.underlying22 hi hz0 hz1 hz2 rfl (by decide) _ _ _ rfl (hown.out.alloc _) ⟨wr.heap.size, 0, none⟩ 1 1 [.string a] rfl rfl ?c1 ?c2 ?c3 ?c4 ?c5 ?_)
          case c1 => exact cell_one_new _ _ _
          case c2 => intro u hu; simp at hu; subst hu; rfl
          case c3 => unfold maxLen; omega
          case c4 => omega
          case c5 => have := hB.out.2; simp; omega
          intro v' w9 hown' hgrow _
          have HO : Hid (w9.ownsRow w.heap.size 9 1 v' (i + 1) (strV (insK gs1 a i i))) := by
            rw [strV_snoc] at hown'
            rw [insK_self]
            exact hown'
          have HB9 : Hid (Below w.heap.size w w9 ∧ w.heap.size ≤ w9.heap.size) := app_below hB.out.1 hB.out.2 hown.out _ hgrow
          clear hown' hgrow hown hB hlt hkn
          go_wp2
          go_loopg [15, 17] (la - i) (fun n v x wr => ∃ m : Nat, x = .int .i64 m ∧ i ≤ m ∧ m ≤ la ∧ m + n = la ∧ Hid (Below w.heap.size w wr ∧ w.heap.size ≤ wr.heap.size) ∧ Hid (wr.ownsRow w.heap.size 9 1 v (m + 1) (strV (insK gs1 a i m))))
          case atStart => exact ⟨i, rfl, Nat.le_refl _, by omega, by omega, HB9, HO⟩
          case round =>
            clear HB9 HO
            obtain ⟨m, rfl, hkm, hmn, hmm, hB, hown⟩ := hrel
            by_cases hlt : m < la
            · have ea := RA.out.adr (by omega); subst ea
              obtain ⟨s, hs⟩ : ∃ s, Hid (gs1.getD m ByteArray.empty = s) := ⟨gs1.getD m ByteArray.empty, show _ = _ from rfl⟩
              have hck : wr.cell? ⟨ba, oa + m, none⟩ = some (.string s) := by rw [hB.out.1.cell (p := ⟨ba, oa + m, none⟩) (RA.out.lt (by omega)), RA.out.cell m (by omega), hs.out]
              go_wp2_with (at_builtin; refine wpList_append_own _ rfl _ _ 22 rfl w.heap.size 9 i0 (.string ⟨#[]⟩) 1 16 Try.underlying22 hi hz0 hz1 hz2 rfl (by decide) _ _ _ rfl (hown.out.alloc _) ⟨wr.heap.size, 0, none⟩ 1 1 [.string s] rfl rfl ?c1 ?c2 ?c3 ?c4 ?c5 ?_)
              case c1 => exact cell_one_new _ _ _
              case c2 => intro u hu; simp at hu; subst hu; rfl
              case c3 => unfold maxLen; omega
              case c4 => omega
              case c5 => have := hB.out.2; simp; omega
              intro v' w9 hown' hgrow _
              have HO : Hid (w9.ownsRow w.heap.size 9 1 v' (m + 1 + 1) (strV (insK gs1 a i (m + 1)))) := by
                rw [strV_snoc, ← hs.out, insK_snoc _ _ _ _ hkm (by rw [RA.out.len]; omega)] at hown'; exact hown'
              have HB9 : Hid (Below w.heap.size w w9 ∧ w.heap.size ≤ w9.heap.size) := app_below hB.out.1 hB.out.2 hown.out _ hgrow
              clear hown' hgrow hown hB hck
              go_wp2
              go_roundg (gk - 1)
              case measure => omega
              case rel => exact ⟨m + 1, by go_num, by omega, by omega, by omega, HB9, HO⟩
            · obtain rfl : la = m := by omega
              obtain ⟨g, cap, rfl, hgB, hCR⟩ := owns_CR hown.out
              have HG : Hid (CR g (la + 1) (insK gs1 a i la) wr) := hCR
              have HB1 : Hid (Below w.heap.size w wr ∧ w.heap.size ≤ wr.heap.size) := hB
              have RE1 : Hid (InRow wr ae be oe le es) := RE.out.below hB.out.1 (Nat.le_refl _)
              clear hCR hgB hown hB hlt hmm hkm hmn
              obtain ⟨w1, rfl⟩ : ∃ w1, w1 = wr := ⟨wr, rfl⟩
              have hmk1 : ∀ w : World, (Instr.makeSlice 22 (.int .i64 0) (.int .i64 ((le : Int) + 1))).run Try.prog w = .ok (.slice (some ⟨w.heap.size, 0, none⟩) 0 (le + 1)) (w.alloc (.cells (madeCells #[.string ⟨#[]⟩] (le + 1)) 9)) := fun w => make0 w le h1
              go_wp2_with fail
              clear hmk1
              go_loopg [18, 19] j (fun n v x wr => ∃ k : Nat, x = .int .i64 k ∧ k + n = j ∧ Hid (Below w1.heap.size w1 wr ∧ w1.heap.size ≤ wr.heap.size) ∧ Hid (wr.ownsRow w1.heap.size 9 1 v k (strV (es.take k))))
              case atStart => exact ⟨0, rfl, by omega, ⟨(Below.refl _ _).alloc (Nat.le_refl _) _, by simp⟩, World.ownsRow_made w1 _ (le + 1) (Nat.le_refl _) (by unfold maxLen; omega) (by rw [size_madeCells, Nat.mul_one])⟩
              case round =>
                obtain ⟨k, rfl, hkn, hB, hown⟩ := hrel
                by_cases hlt : k < j
                · have ea := RE1.out.adr (by omega); subst ea
                  obtain ⟨s, hs⟩ : ∃ s, Hid (es.getD k ByteArray.empty = s) := ⟨es.getD k ByteArray.empty, show _ = _ from rfl⟩
                  have hck : wr.cell? ⟨be, oe + k, none⟩ = some (.string s) := by rw [hB.out.1.cell (p := ⟨be, oe + k, none⟩) (RE1.out.lt (by omega)), RE1.out.cell k (by omega), hs.out]
                  go_wp2_with (at_builtin; refine wpList_append_own _ rfl _ _ 22 rfl w1.heap.size 9 i0 (.string ⟨#[]⟩) 1 16 Try.underlying22 hi hz0 hz1 hz2 rfl (by decide) _ _ _ rfl (hown.out.alloc _) ⟨wr.heap.size, 0, none⟩ 1 1 [.string s] rfl rfl ?c1 ?c2 ?c3 ?c4 ?c5 ?_)
                  case c1 => exact cell_one_new _ _ _
                  case c2 => intro u hu; simp at hu; subst hu; rfl
                  case c3 => unfold maxLen; omega
                  case c4 => omega
                  case c5 => have := hB.out.2; simp; omega
                  intro v' w9 hown' hgrow _
                  have HO : Hid (w9.ownsRow w1.heap.size 9 1 v' (k + 1) (strV (es.take (k + 1)))) := by
                    rw [strV_snoc, ← hs.out, take_snoc _ _ (by rw [RE1.out.len]; omega)] at hown'; exact hown'
                  have HB9 : Hid (Below w1.heap.size w1 w9 ∧ w1.heap.size ≤ w9.heap.size) := app_below hB.out.1 hB.out.2 hown.out _ hgrow
                  clear hown' hgrow hown hB hck
                  go_wp2
                  go_roundg (gk - 1)
                  case measure => omega
                  case rel => exact ⟨k + 1, by go_num, by omega, HB9, HO⟩
                · obtain rfl : j = k := by omega
                  go_wp2_with (at_builtin; refine wpList_append_own _ rfl _ _ 22 rfl w1.heap.size 9 i0 (.string ⟨#[]⟩) 1 16 Try.underlying22 hi hz0 hz1 hz2 rfl (by decide) _ _ _ rfl (hown.out.alloc _) ⟨wr.heap.size, 0, none⟩ 1 1 [.string e] rfl rfl ?c1 ?c2 ?c3 ?c4 ?c5 ?_)
                  case c1 => exact cell_one_new _ _ _
                  case c2 => intro u hu; simp at hu; subst hu; rfl
                  case c3 => unfold maxLen; omega
                  case c4 => omega
                  case c5 => have := hB.out.2; simp; omega
                  intro v' w9 hown' hgrow _
                  have HO : Hid (w9.ownsRow w1.heap.size 9 1 v' (j + 1) (strV (insK es e j j))) := by
                    rw [strV_snoc] at hown'
                    rw [insK_self]
                    exact hown'
                  have HB9 : Hid (Below w1.heap.size w1 w9 ∧ w1.heap.size ≤ w9.heap.size) := app_below hB.out.1 hB.out.2 hown.out _ hgrow
                  clear hown' hgrow hown hB hlt hkn
                  go_wp2
                  go_loopg [18, 20] (le - j) (fun n v x wr => ∃ m : Nat, x = .int .i64 m ∧ j ≤ m ∧ m ≤ le ∧ m + n = le ∧ Hid (Below w1.heap.size w1 wr ∧ w1.heap.size ≤ wr.heap.size) ∧ Hid (wr.ownsRow w1.heap.size 9 1 v (m + 1) (strV (insK es e j m))))
                  case atStart => exact ⟨j, rfl, Nat.le_refl _, by omega, by omega, HB9, HO⟩
                  case round =>
                    clear HB9 HO
                    obtain ⟨m, rfl, hkm, hmn, hmm, hB, hown⟩ := hrel
                    by_cases hlt : m < le
                    · have ea := RE1.out.adr (by omega); subst ea
                      obtain ⟨s, hs⟩ : ∃ s, Hid (es.getD m ByteArray.empty = s) := ⟨es.getD m ByteArray.empty, show _ = _ from rfl⟩
                      have hck : wr.cell? ⟨be, oe + m, none⟩ = some (.string s) := by rw [hB.out.1.cell (p := ⟨be, oe + m, none⟩) (RE1.out.lt (by omega)), RE1.out.cell m (by omega), hs.out]
                      go_wp2_with (at_builtin; refine wpList_append_own _ rfl _ _ 22 rfl w1.heap.size 9 i0 (.string ⟨#[]⟩) 1 16 Try.underlying22 hi hz0 hz1 hz2 rfl (by decide) _ _ _ rfl (hown.out.alloc _) ⟨wr.heap.size, 0, none⟩ 1 1 [.string s] rfl rfl ?c1 ?c2 ?c3 ?c4 ?c5 ?_)
                      case c1 => exact cell_one_new _ _ _
                      case c2 => intro u hu; simp at hu; subst hu; rfl
                      case c3 => unfold maxLen; omega
                      case c4 => omega
                      case c5 => have := hB.out.2; simp; omega
                      intro v' w9 hown' hgrow _
                      have HO : Hid (w9.ownsRow w1.heap.size 9 1 v' (m + 1 + 1) (strV (insK es e j (m + 1)))) := by
                        rw [strV_snoc, ← hs.out, insK_snoc _ _ _ _ hkm (by rw [RE1.out.len]; omega)] at hown'; exact hown'
                      have HB9 : Hid (Below w1.heap.size w1 w9 ∧ w1.heap.size ≤ w9.heap.size) := app_below hB.out.1 hB.out.2 hown.out _ hgrow
                      clear hown' hgrow hown hB hck
                      go_wp2
                      go_roundg (gk - 1)
                      case measure => omega
                      case rel => exact ⟨m + 1, by go_num, by omega, by omega, by omega, HB9, HO⟩
                    · obtain rfl : le = m := by omega
                      obtain ⟨g2, cap2, rfl, hgB, hCR⟩ := owns_CR hown.out
                      obtain ⟨w2, rfl⟩ : ∃ w2, w2 = wr := ⟨wr, rfl⟩
                      have HG2 : Hid (CR g2 (le + 1) (insK es e j le) w2) := hCR
                      have HG1 : Hid (CR g (la + 1) (insK gs1 a i la) w2) := HG.out.below hB.out.1 HG.out.lt
                      have HB2 : Hid (Below w.heap.size w w2 ∧ w.heap.size ≤ w2.heap.size) := ⟨HB1.out.1.trans (hB.out.1.mono HB1.out.2), by have := HB1.out.2; have := hB.out.2; omega⟩
                      have RE2 : Hid (InRow w2 ae be oe le es) := RE.out.below HB2.out.1 (Nat.le_refl _)
                      have RA2 : Hid (InRow w2 aa ba oa la gs1) := RA.out.below HB2.out.1 (Nat.le_refl _)
                      have RO2 : Hid (InRow w2 (some ⟨g2, 0, none⟩) g2 0 (le + 1) (insK es e j le)) := HG2.out.row (by omega) (by rw [← RE.out.len]; exact ins_small j RE.out.small h6)
                      have RO1 : Hid (InRow w2 (some ⟨g, 0, none⟩) g 0 (la + 1) (insK gs1 a i la)) := HG1.out.row (by omega) (by rw [← RA.out.len]; exact ins_small i RA.out.small h5)
                      have L2 : Hid (anyHit envHit (insK es e j le) = (anyHit envHit es || envHit 0 e)) := by
                        have := env_ins es e j (by rw [RE.out.len]; exact hj)
                        rw [RE.out.len] at this; exact this
                      have L1 : Hid (anyHit argHit (insK gs1 a i la) = (anyHit argHit gs1 || hasL a.data.toList)) := by
                        have := arg_ins gs1 a i hi1 (by rw [RA.out.len]; exact hi2)
                        rw [RA.out.len] at this; exact this
                      clear hCR hgB hown hB hlt hmm hkm hmn HG HB1 RE1 RE RA hE hA HG1 HG2
                      clear dI1 dI2 dI3 dJ1 dJ2 dJ3 dN dA dE hi hz0 hz1 hz2
                      obtain ⟨p, hp⟩ : ∃ p : Bool, Hid ((anyHit envHit es || anyHit argHit gs1) = p) := ⟨_, show _ = _ from rfl⟩
                      obtain ⟨p2, hp2⟩ : ∃ p : Bool, Hid ((anyHit envHit (insK es e j le) || anyHit argHit (insK gs1 a i la)) = p) := ⟨_, show _ = _ from rfl⟩
                      obtain ⟨q, hq⟩ : ∃ p : Bool, Hid (hasL a.data.toList = p) := ⟨_, show _ = _ from rfl⟩
                      obtain ⟨r, hr⟩ : ∃ p : Bool, Hid (envHit 0 e = p) := ⟨_, show _ = _ from rfl⟩
                      have L : Hid (p2 = (p || q || r)) := by
                        have x1 := hp.out; have x2 := hp2.out; have x3 := hq.out; have x4 := hr.out; have x5 := L1.out; have x6 := L2.out
                        show _ = _
                        rw [x5, x6, x3, x4] at x2
                        rw [← x2, ← x1]
                        cases anyHit envHit es <;> cases anyHit argHit gs1 <;> cases q <;> cases r <;> rfl
                      clear L1 L2
                      go_wp2_with fail
                      refine (hasP_box p ae aa be oe le ce ba oa la ca es gs1 w2 _ _ _ _ hp RE2 RA2).mono ?_
                      rintro en w3 ⟨rfl, hB3⟩
                      have HB3 : Hid (Below w2.heap.size w2 w3) := hB3
                      have RO2' : Hid (InRow w3 (some ⟨g2, 0, none⟩) g2 0 (le + 1) (insK es e j le)) := RO2.out.below hB3 (Nat.le_refl _)
                      have RO1' : Hid (InRow w3 (some ⟨g, 0, none⟩) g 0 (la + 1) (insK gs1 a i la)) := RO1.out.below hB3 (Nat.le_refl _)
                      clear hB3 RO1 RO2
                      go_wp2_with fail
                      refine (hasP_box p2 (some ⟨g2, 0, none⟩) (some ⟨g, 0, none⟩) g2 0 (le + 1) cap2 g 0 (la + 1) cap _ _ w3 _ _ _ _ hp2 RO2' RO1').mono ?_
                      rintro en w4 ⟨rfl, hB4⟩
                      have HB4 : Hid (Below w.heap.size w w4) := HB2.out.1.trans ((HB3.out.trans (hB4.mono HB3.out.size)).mono HB2.out.2)
                      clear hB4 HB3 HB2 RE2 RA2 RO1' RO2' hp hp2
                      obtain ⟨z, hzz⟩ : ∃ z : Int, Hid (Lib.indexByte e.data.toList 61 = z) := ⟨_, show _ = _ from rfl⟩
                      have hzc : Hid ((z = -1 ∧ r = false) ∨ ∃ k : Nat, z = k ∧ k + 1 ≤ e.size ∧ Hid (hasL (e.extract (k + 1) e.size).data.toList = r)) := by
                        have x1 := hzz.out; have x2 := hr.out
                        show _ ∨ _
                        unfold envHit at x2
                        rcases ib_cases e.data.toList 61 with h | ⟨k, h, hk⟩
                        · left
                          rw [h] at x1 x2
                          exact ⟨x1.symm, x2.symm⟩
                        · right
                          rw [h] at x1 x2
                          refine ⟨k, x1.symm, (show k < e.size by simpa using hk), ?_⟩
                          rw [decide_eq_true (by omega), Bool.true_and, show ((k : Int) + 1).toNat = k + 1 by omega] at x2
                          exact x2
                      clear hr
                      cases p with
                      | true =>
                        go_wp2_with fail
                        refine (firstEq_is z e _ hzz h6).mono ?_
                        rintro en w' ⟨rfl, rfl⟩
                        rcases hzc.out with ⟨rfl, rfl⟩ | ⟨k, rfl, hk, hrr⟩
                        · clear hzc
                          go_wp2
                          go_ret
                          refine ⟨?_, HB4.out⟩
                          have hL := L.out
                          clear L hq
                          revert hL
                          cases p2 <;> cases q <;> intro hL <;> first | rfl | exact absurd hL (by decide)
                        · clear hzc
                          have hs2 := slice_lo e (k + 1) ((k : Int) + 1) (by omega) hk
                          cases r with
                          | true =>
                            go_wp2_with fail
                            refine (hasSub_is true (e.extract (k + 1) e.size) _ hrr (by rw [ByteArray.size_extract]; omega)).mono ?_
                            rintro en w' ⟨rfl, rfl⟩
                            go_wp2
                            go_ret
                            refine ⟨?_, HB4.out⟩
                            have hL := L.out
                            clear L hq
                            revert hL
                            cases p2 <;> cases q <;> intro hL <;> first | rfl | exact absurd hL (by decide)
                          | false =>
                            go_wp2_with fail
                            refine (hasSub_is false (e.extract (k + 1) e.size) _ hrr (by rw [ByteArray.size_extract]; omega)).mono ?_
                            rintro en w' ⟨rfl, rfl⟩
                            go_wp2
                            go_ret
                            refine ⟨?_, HB4.out⟩
                            have hL := L.out
                            clear L hq
                            revert hL
                            cases p2 <;> cases q <;> intro hL <;> first | rfl | exact absurd hL (by decide)
                      | false =>
                        go_wp2_with fail
                        refine (hasSub_is q a _ hq h5).mono ?_
                        rintro en w' ⟨rfl, rfl⟩
                        go_wp2_with fail
                        refine (firstEq_is z e _ hzz h6).mono ?_
                        rintro en w' ⟨rfl, rfl⟩
                        rcases hzc.out with ⟨rfl, rfl⟩ | ⟨k, rfl, hk, hrr⟩
                        · clear hzc
                          go_wp2
                          go_ret
                          refine ⟨?_, HB4.out⟩
                          have hL := L.out
                          clear L hq
                          revert hL
                          cases p2 <;> cases q <;> intro hL <;> first | rfl | exact absurd hL (by decide)
                        · clear hzc
                          have hs2 := slice_lo e (k + 1) ((k : Int) + 1) (by omega) hk
                          cases r with
                          | true =>
                            go_wp2_with fail
                            refine (hasSub_is true (e.extract (k + 1) e.size) _ hrr (by rw [ByteArray.size_extract]; omega)).mono ?_
                            rintro en w' ⟨rfl, rfl⟩
                            go_wp2
                            go_ret
                            refine ⟨?_, HB4.out⟩
                            have hL := L.out
                            clear L hq
                            revert hL
                            cases p2 <;> cases q <;> intro hL <;> first | rfl | exact absurd hL (by decide)
                          | false =>
                            go_wp2_with fail
                            refine (hasSub_is false (e.extract (k + 1) e.size) _ hrr (by rw [ByteArray.size_extract]; omega)).mono ?_
                            rintro en w' ⟨rfl, rfl⟩
                            go_wp2
                            go_ret
                            refine ⟨?_, HB4.out⟩
                            have hL := L.out
                            clear L hq
                            revert hL
                            cases p2 <;> cases q <;> intro hL <;> first | rfl | exact absurd hL (by decide)
end Go.Proofs.Qxb6614432a
